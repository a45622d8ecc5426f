/- Walks through the functions that laws.FnExtremes reaches: what each computes; no conditions beyond what each theorem states. -/
import Derived.Test.YtgljcnmakpnamaaWFnExtremesa
set_option linter.unusedVariables false
set_option linter.unusedSimpArgs false
namespace Go.Proofs.Ytgljcnmakpnamaa.wFnExtremes
open Go Go.Sl
set_option maxRecDepth 100000 in
set_option maxHeartbeats 4000000 in
theorem lo_MinBy {M : Hp} {v0 : Value} {l0 : List Int} (h0 : RdI M v0 l0){v1 : Value} {f1 : Int → Int → Bool} (h1 : PF2B Try.prog v1 M f1) :
    Pu Try.prog (.func (.func 146) #[] #[]) M [v0, v1] (fun r M' => r = .int .i64 (bV f1 l0)) := by
  refine Pu_enter Try.func146 rfl Try.ntmps146 rfl Try.call146 ?_
  intro a w M1 H hM1 S E
  replace h0 := h0.le hM1
  replace h1 := h1.le hM1
  have b0 := h0.bound
  refine WP_seq ?_
  refine WP_region ?_
  refine S_v E rfl (R_assign E rfl) rfl ?_
  clear E a; intro a E
  refine WL_nil ?_
  refine T_n ?_
  refine WP_seq ?_
  refine WP_region ?_
  refine S_v E rfl (R_assign E rfl) rfl ?_
  clear E a; intro a E
  refine WL_nil ?_
  refine T_n ?_
  refine WP_seq ?_
  refine WP_seq ?_
  refine WP_region ?_
  refine S_v E rfl (R_move E rfl) rfl ?_
  clear E a; intro a E
  refine S_v E rfl (R_lenV E rfl T22 h0.len) rfl ?_
  clear E a; intro a E
  refine S_v E rfl (R_eql E rfl rfl) rfl ?_
  clear E a; intro a E
  refine WL_nil ?_
  refine T_n ?_
  refine WP_cond E rfl (fun hc_1 => ?_) (fun hc_1 => ?_)
  · replace hc_1 := of_decide_eq_true hc_1
    refine WP_seq ?_
    refine WP_region ?_
    refine S_v E rfl (R_move E rfl) rfl ?_
    clear E a; intro a E
    refine S_v E rfl (R_assign E rfl) rfl ?_
    clear E a; intro a E
    refine WL_nil ?_
    refine T_n ?_
    refine WP_ret ?_
    refine T_r ?_
    exact F_ret1 E Try.results146 rfl ⟨_, rfl, M1, (Hp.le.refl _), (congrArg (Value.int .i64) (by (first | (have e := List.eq_nil_of_length_eq_zero (l := l0) (by omega); subst e; rfl) | (rw [List.take_of_length_le (by omega)])))), S⟩
  · replace hc_1 := of_decide_eq_false hc_1
    refine WP_skip ?_
    refine T_n ?_
    refine WP_seq ?_
    refine WP_region ?_
    refine S_v E rfl (R_move E rfl) rfl ?_
    clear E a; intro a E
    obtain ⟨x_2, hx_2⟩ : ∃ x, (l0)[0]? = some x := ⟨_, List.getElem?_eq_getElem (by first | omega | (simp; done) | (simp; omega) | (simp_all; omega))⟩
    obtain ⟨p_3, hp_3, qp_3⟩ := h0.at hx_2
    refine S_v E rfl (R_idx E rfl rfl T22 hp_3 (by omega)) rfl ?_
    clear E a; intro a E
    refine S_v E rfl (R_loadM E rfl Try.isAgg3 S.imm qp_3) rfl ?_
    clear E a; intro a E
    refine S_v E rfl (R_assign E rfl) rfl ?_
    clear E a; intro a E
    refine WL_nil ?_
    refine T_n ?_
    refine WP_seq ?_
    refine WP_seq ?_
    refine WP_region ?_
    refine S_v E rfl (R_assign E rfl) rfl ?_
    clear E a; intro a E
    refine WL_nil ?_
    refine T_n ?_
    refine WP_block ?_
    refine WP_loop (γ := Nat) (fun (k : Nat) a w => ∃ (M_4 : Hp), Hp.le M1 M_4 ∧ St w M_4 (H) ∧ Env a 31 [] [(0, v0), (1, v1), (5, .int .i64 (bV f1 (l0.take (k + 1)))), (6, .int .i64 ((k + 1 : Nat) : Int))] ∧ (k + 1 ≤ l0.length)) (fun k => l0.length - k) 0 ⟨M1, Hp.le.refl _, S, E.keep ⟨rfl, rfl, look_int (i := x_2) rfl (by (rw [bV_take (by assumption)]; simp)), look_nat (i := 1) rfl (by (simp)), trivial⟩, (by omega)⟩ ?_
    try clear E
    try clear S
    try clear a
    try clear w
    rintro k a w ⟨M_4, hM_4, S, E, hL0_0⟩
    replace h0 := h0.le hM_4
    replace h1 := h1.le hM_4
    refine WP_seq ?_
    refine WP_seq ?_
    refine WP_region ?_
    refine S_v E rfl (R_move E rfl) rfl ?_
    clear E a; intro a E
    refine S_v E rfl (R_move E rfl) rfl ?_
    clear E a; intro a E
    refine S_v E rfl (R_lenV E rfl T22 h0.len) rfl ?_
    clear E a; intro a E
    refine S_v E rfl (R_lss E rfl rfl) rfl ?_
    clear E a; intro a E
    refine WL_nil ?_
    refine T_n ?_
    refine WP_cond E rfl (fun hc_5 => ?_) (fun hc_5 => ?_)
    · replace hc_5 := of_decide_eq_true hc_5
      refine WP_skip ?_
      refine T_n ?_
      refine WP_seq ?_
      refine WP_block ?_
      refine WP_seq ?_
      refine WP_region ?_
      refine S_v E rfl (R_move E rfl) rfl ?_
      clear E a; intro a E
      refine S_v E rfl (R_move E rfl) rfl ?_
      clear E a; intro a E
      obtain ⟨x_6, hx_6⟩ : ∃ x, (l0)[k + 1]? = some x := ⟨_, List.getElem?_eq_getElem (by first | omega | (simp; done) | (simp; omega) | (simp_all; omega))⟩
      obtain ⟨p_7, hp_7, qp_7⟩ := h0.at hx_6
      refine S_v E rfl (R_idx E rfl rfl T22 hp_7 rfl) rfl ?_
      clear E a; intro a E
      refine S_v E rfl (R_loadM E rfl Try.isAgg3 S.imm qp_7) rfl ?_
      clear E a; intro a E
      refine S_v E rfl (R_assign E rfl) rfl ?_
      clear E a; intro a E
      refine WL_nil ?_
      refine T_n ?_
      refine WP_seq ?_
      refine WP_region ?_
      refine S_v E rfl (R_move E rfl) rfl ?_
      clear E a; intro a E
      refine S_v E rfl (R_move E rfl) rfl ?_
      clear E a; intro a E
      refine S_v E rfl (R_move E rfl) rfl ?_
      clear E a; intro a E
      refine S_x (X_pu E S rfl rfl rfl (h1.2 x_6 (bV f1 (l0.take (k + 1)))) (Hp.le.refl _) ?_)
      clear E a S; rintro a _ w M_8 hM_8 rfl S E
      replace h0 := h0.le hM_8
      replace h1 := h1.le hM_8
      refine WL_nil ?_
      refine T_n ?_
      refine WP_cond E rfl (fun hc_9 => ?_) (fun hc_9 => ?_)
      · refine WP_region ?_
        refine S_v E rfl (R_move E rfl) rfl ?_
        clear E a; intro a E
        refine S_v E rfl (R_assign E rfl) rfl ?_
        clear E a; intro a E
        refine WL_nil ?_
        refine B_n ?_
        refine T_n ?_
        refine WP_region ?_
        refine S_v E rfl (R_move E rfl) rfl ?_
        clear E a; intro a E
        refine S_v E rfl (R_addx (m := ((k + 1 + 1 : Nat) : Int)) E rfl rfl (by omega) (by omega)) rfl ?_
        clear E a; intro a E
        refine S_v E rfl (R_assign E rfl) rfl ?_
        clear E a; intro a E
        refine WL_nil ?_
        refine T_n ?_
        exact ⟨k + 1, ⟨M_8, (hM_4.trans hM_8), S, E.keep ⟨rfl, rfl, look_int (i := x_6) rfl (by (rw [bV_take (k := k + 1) (by assumption)]; first | (rw [if_pos]; right; (first | assumption | (simp only [ltb, gtb, kLt, kGt, decide_eq_true_eq]; assumption) | (simp only [cg, ltb, gtb, kLt, kGt]; simp_all; done))) | (rw [if_neg]; ((intro hz; rcases hz with hz | hz; omega; ((try simp only [ltb, gtb, kLt, kGt, decide_eq_true_eq] at hz); first | contradiction | omega | (simp_all; done))))))), look_nat (i := k + 1 + 1) rfl (by (omega)), trivial⟩, (by omega)⟩, by omega⟩
      · refine WP_skip ?_
        refine B_n ?_
        refine T_n ?_
        refine WP_region ?_
        refine S_v E rfl (R_move E rfl) rfl ?_
        clear E a; intro a E
        refine S_v E rfl (R_addx (m := ((k + 1 + 1 : Nat) : Int)) E rfl rfl (by omega) (by omega)) rfl ?_
        clear E a; intro a E
        refine S_v E rfl (R_assign E rfl) rfl ?_
        clear E a; intro a E
        refine WL_nil ?_
        refine T_n ?_
        exact ⟨k + 1, ⟨M_8, (hM_4.trans hM_8), S, E.keep ⟨rfl, rfl, look_int (i := bV f1 (l0.take (k + 1))) rfl (by (rw [bV_take (k := k + 1) (by assumption)]; first | (rw [if_pos]; right; (first | assumption | (simp only [ltb, gtb, kLt, kGt, decide_eq_true_eq]; assumption) | (simp only [cg, ltb, gtb, kLt, kGt]; simp_all; done))) | (rw [if_neg]; ((intro hz; rcases hz with hz | hz; omega; ((try simp only [ltb, gtb, kLt, kGt, decide_eq_true_eq] at hz); first | contradiction | omega | (simp_all; done))))))), look_nat (i := k + 1 + 1) rfl (by (omega)), trivial⟩, (by omega)⟩, by omega⟩
    · replace hc_5 := of_decide_eq_false hc_5
      refine WP_exit ?_
      refine T_x ?_
      refine T_x ?_
      refine B_x ?_
      refine T_n ?_
      refine WP_seq ?_
      refine WP_region ?_
      refine S_v E rfl (R_move E rfl) rfl ?_
      clear E a; intro a E
      refine S_v E rfl (R_assign E rfl) rfl ?_
      clear E a; intro a E
      refine WL_nil ?_
      refine T_n ?_
      refine WP_ret ?_
      exact F_ret1 E Try.results146 rfl ⟨_, rfl, M_4, hM_4, (congrArg (Value.int .i64) (by (first | (have e := List.eq_nil_of_length_eq_zero (l := l0) (by omega); subst e; rfl) | (rw [List.take_of_length_le (by omega)])))), S⟩

set_option maxRecDepth 100000 in
set_option maxHeartbeats 4000000 in
theorem impl_mod {M : Hp} {x0 x1 : Int} (hn : x1 ≠ 0) (g1 : -9223372036854775808 ≤ x1 ∧ x1 ≤ 9223372036854775807) :
    Pu Try.prog (.func (.func 252) #[] #[]) M [.int .i64 x0, .int .i64 x1] (fun r M' => r = .int .i64 (x0 % x1)) := by
  refine Pu_enter Try.func252 rfl Try.ntmps252 rfl Try.call252 ?_
  intro a w M1 H hM1 S E
  have ht := tmod_emod x0 x1 hn
  refine WP_seq ?_
  refine WP_region ?_
  refine S_v E rfl (R_assign E rfl) rfl ?_
  clear E a; intro a E
  refine WL_nil ?_
  refine T_n ?_
  refine WP_seq ?_
  refine WP_region ?_
  refine S_v E rfl (R_move E rfl) rfl ?_
  clear E a; intro a E
  refine S_v E rfl (R_move E rfl) rfl ?_
  clear E a; intro a E
  refine S_v E rfl (R_rem E rfl rfl (by first | decide | omega)) rfl ?_
  clear E a; intro a E
  refine S_v E rfl (R_assign E rfl) rfl ?_
  clear E a; intro a E
  refine WL_nil ?_
  refine T_n ?_
  refine WP_seq ?_
  refine WP_seq ?_
  refine WP_region ?_
  refine S_v E rfl (R_move E rfl) rfl ?_
  clear E a; intro a E
  refine S_v E rfl (R_lss E rfl rfl) rfl ?_
  clear E a; intro a E
  refine WL_nil ?_
  refine T_n ?_
  refine WP_cond E rfl (fun hc_1 => ?_) (fun hc_1 => ?_)
  · replace hc_1 := of_decide_eq_true hc_1
    refine WP_seq ?_
    refine WP_seq ?_
    refine WP_region ?_
    refine S_v E rfl (R_move E rfl) rfl ?_
    clear E a; intro a E
    refine S_v E rfl (R_lss E rfl rfl) rfl ?_
    clear E a; intro a E
    refine WL_nil ?_
    refine T_n ?_
    refine WP_cond E rfl (fun hc_2 => ?_) (fun hc_2 => ?_)
    · replace hc_2 := of_decide_eq_true hc_2
      refine WP_seq ?_
      refine WP_region ?_
      refine S_v E rfl (R_move E rfl) rfl ?_
      clear E a; intro a E
      refine S_v E rfl (R_move E rfl) rfl ?_
      clear E a; intro a E
      refine S_v E rfl (R_subx (m := (Int.tmod x0 x1) - x1) E rfl rfl (by omega) (by omega)) rfl ?_
      clear E a; intro a E
      refine S_v E rfl (R_assign E rfl) rfl ?_
      clear E a; intro a E
      refine WL_nil ?_
      refine T_n ?_
      refine WP_ret ?_
      refine T_r ?_
      refine T_r ?_
      exact F_ret1 E Try.results252 rfl ⟨_, rfl, M1, (Hp.le.refl _), (congrArg (Value.int .i64) (by omega)), S⟩
    · replace hc_2 := of_decide_eq_false hc_2
      refine WP_skip ?_
      refine T_n ?_
      refine WP_seq ?_
      refine WP_region ?_
      refine S_v E rfl (R_move E rfl) rfl ?_
      clear E a; intro a E
      refine S_v E rfl (R_move E rfl) rfl ?_
      clear E a; intro a E
      refine S_v E rfl (R_addx (m := (Int.tmod x0 x1) + x1) E rfl rfl (by omega) (by omega)) rfl ?_
      clear E a; intro a E
      refine S_v E rfl (R_assign E rfl) rfl ?_
      clear E a; intro a E
      refine WL_nil ?_
      refine T_n ?_
      refine WP_ret ?_
      refine T_r ?_
      exact F_ret1 E Try.results252 rfl ⟨_, rfl, M1, (Hp.le.refl _), (congrArg (Value.int .i64) (by omega)), S⟩
  · replace hc_1 := of_decide_eq_false hc_1
    refine WP_skip ?_
    refine T_n ?_
    refine WP_seq ?_
    refine WP_region ?_
    refine S_v E rfl (R_move E rfl) rfl ?_
    clear E a; intro a E
    refine S_v E rfl (R_assign E rfl) rfl ?_
    clear E a; intro a E
    refine WL_nil ?_
    refine T_n ?_
    refine WP_ret ?_
    exact F_ret1 E Try.results252 rfl ⟨_, rfl, M1, (Hp.le.refl _), (congrArg (Value.int .i64) (by omega)), S⟩

set_option maxRecDepth 100000 in
set_option maxHeartbeats 4000000 in
theorem Key_at_c {M : Hp} {kk0 kn0 : Int} (gk0 : -9223372036854775808 ≤ kn0 ∧ kn0 ≤ 9223372036854775807){x1 x2 : Int} :
    PuC Try.prog 193 M [.agg #[.int .i64 kk0, .int .i64 kn0], .int .i64 x1, .int .i64 x2] (fun r M' => r = .int .i64 (keyAt kk0 kn0 x1 x2)) := by
  refine PuC_enter Try.func193 rfl Try.ntmps193 rfl ?_
  intro a w M1 H hM1 S E
  refine WP_seq ?_
  refine WP_region ?_
  refine S_x (X_box (cs := #[.int .i64 kk0, .int .i64 kn0]) E S rfl rfl rfl ?_)
  clear E a S; rintro a w b_1 E S
  obtain ⟨M_2, hM_2, hb_1, S⟩ := S.freezeB
  refine S_v E rfl (R_assign E rfl) rfl ?_
  clear E a; intro a E
  refine WL_nil ?_
  refine T_n ?_
  refine WP_seq ?_
  refine WP_seq ?_
  refine WP_region ?_
  refine S_v E rfl (R_fieldAddr E rfl (FA24_0 _)) rfl ?_
  clear E a; intro a E
  refine S_v E rfl (R_loadM E rfl Try.isAgg3 S.imm (cellM_boxo hb_1 rfl)) rfl ?_
  clear E a; intro a E
  refine WL_nil ?_
  refine T_n ?_
  refine WP_block ?_
  refine WP_seq ?_
  refine WP_region ?_
  refine S_v E rfl (R_eql E rfl rfl) rfl ?_
  clear E a; intro a E
  refine S_v E rfl (R_assign E rfl) rfl ?_
  clear E a; intro a E
  refine WL_nil ?_
  refine T_n ?_
  refine WP_cond E rfl (fun hc_3 => ?_) (fun hc_3 => ?_)
  · replace hc_3 := of_decide_eq_true hc_3
    refine WP_seq ?_
    refine WP_region ?_
    refine S_v E rfl (R_move E rfl) rfl ?_
    clear E a; intro a E
    refine S_v E rfl (R_fieldAddr E rfl (FA24_1 _)) rfl ?_
    clear E a; intro a E
    refine S_v E rfl (R_loadM E rfl Try.isAgg3 S.imm (cellM_boxo hb_1 rfl)) rfl ?_
    clear E a; intro a E
    refine S_v E rfl (R_add E rfl rfl) rfl ?_
    clear E a; intro a E
    refine S_v E rfl (R_assign E rfl) rfl ?_
    clear E a; intro a E
    refine WL_nil ?_
    refine T_n ?_
    refine WP_ret ?_
    refine B_r ?_
    refine T_r ?_
    exact F_ret1 E Try.results193 rfl ⟨_, rfl, M_2, hM_2, (congrArg (Value.int .i64) (by (clear E S; unfold keyAt w64; first | (simp [*]; done) | (simp_all; done)))), S⟩
  · replace hc_3 := of_decide_eq_false hc_3
    refine WP_seq ?_
    refine WP_region ?_
    refine S_v E rfl (R_eql E rfl rfl) rfl ?_
    clear E a; intro a E
    refine S_v E rfl (R_assign E rfl) rfl ?_
    clear E a; intro a E
    refine WL_nil ?_
    refine T_n ?_
    refine WP_cond E rfl (fun hc_4 => ?_) (fun hc_4 => ?_)
    · replace hc_4 := of_decide_eq_true hc_4
      refine WP_seq ?_
      refine WP_region ?_
      refine S_v E rfl (R_move E rfl) rfl ?_
      clear E a; intro a E
      refine S_v E rfl (R_fieldAddr E rfl (FA24_1 _)) rfl ?_
      clear E a; intro a E
      refine S_v E rfl (R_loadM E rfl Try.isAgg3 S.imm (cellM_boxo hb_1 rfl)) rfl ?_
      clear E a; intro a E
      refine S_v E rfl (R_mul E rfl rfl) rfl ?_
      clear E a; intro a E
      refine S_v E rfl (R_assign E rfl) rfl ?_
      clear E a; intro a E
      refine WL_nil ?_
      refine T_n ?_
      refine WP_ret ?_
      refine B_r ?_
      refine T_r ?_
      exact F_ret1 E Try.results193 rfl ⟨_, rfl, M_2, hM_2, (congrArg (Value.int .i64) (by (clear E S; unfold keyAt w64; first | (simp [*]; done) | (simp_all; done)))), S⟩
    · replace hc_4 := of_decide_eq_false hc_4
      refine WP_seq ?_
      refine WP_region ?_
      refine S_v E rfl (R_eql E rfl rfl) rfl ?_
      clear E a; intro a E
      refine S_v E rfl (R_assign E rfl) rfl ?_
      clear E a; intro a E
      refine WL_nil ?_
      refine T_n ?_
      refine WP_cond E rfl (fun hc_5 => ?_) (fun hc_5 => ?_)
      · replace hc_5 := of_decide_eq_true hc_5
        refine WP_seq ?_
        refine WP_region ?_
        refine S_v E rfl (R_fieldAddr E rfl (FA24_1 _)) rfl ?_
        clear E a; intro a E
        refine S_v E rfl (R_loadM E rfl Try.isAgg3 S.imm (cellM_boxo hb_1 rfl)) rfl ?_
        clear E a; intro a E
        refine S_v E rfl (R_neq E rfl rfl) rfl ?_
        clear E a; intro a E
        refine WL_nil ?_
        refine T_n ?_
        refine WP_cond E rfl (fun hc_6 => ?_) (fun hc_6 => ?_)
        · replace hc_6 := of_decide_eq_true hc_6
          refine WP_seq ?_
          refine WP_region ?_
          refine S_v E rfl (R_move E rfl) rfl ?_
          clear E a; intro a E
          refine S_v E rfl (R_fieldAddr E rfl (FA24_1 _)) rfl ?_
          clear E a; intro a E
          refine S_v E rfl (R_loadM E rfl Try.isAgg3 S.imm (cellM_boxo hb_1 rfl)) rfl ?_
          clear E a; intro a E
          refine S_x (X_pu E S rfl rfl rfl (impl_mod (by first | omega | assumption) (by omega)) (Hp.le.refl _) ?_)
          clear E a S; rintro a _ w M_7 hM_7 rfl S E
          replace hb_1 := hM_7.2 _ _ hb_1
          refine S_v E rfl (R_assign E rfl) rfl ?_
          clear E a; intro a E
          refine WL_nil ?_
          refine T_n ?_
          refine WP_ret ?_
          refine B_r ?_
          refine T_r ?_
          exact F_ret1 E Try.results193 rfl ⟨_, rfl, M_7, (hM_2.trans hM_7), (congrArg (Value.int .i64) (by (clear E S; unfold keyAt w64; first | (simp [*]; done) | (simp_all; done)))), S⟩
        · replace hc_6 := of_decide_eq_false hc_6
          refine WP_skip ?_
          refine B_n ?_
          refine T_n ?_
          refine WP_seq ?_
          refine WP_region ?_
          refine S_v E rfl (R_move E rfl) rfl ?_
          clear E a; intro a E
          refine S_v E rfl (R_assign E rfl) rfl ?_
          clear E a; intro a E
          refine WL_nil ?_
          refine T_n ?_
          refine WP_ret ?_
          exact F_ret1 E Try.results193 rfl ⟨_, rfl, M_2, hM_2, (congrArg (Value.int .i64) (by (clear E S; unfold keyAt w64; first | (simp [*]; done) | (simp_all; done)))), S⟩
      · replace hc_5 := of_decide_eq_false hc_5
        refine WP_seq ?_
        refine WP_region ?_
        refine S_v E rfl (R_eql E rfl rfl) rfl ?_
        clear E a; intro a E
        refine S_v E rfl (R_assign E rfl) rfl ?_
        clear E a; intro a E
        refine WL_nil ?_
        refine T_n ?_
        refine WP_cond E rfl (fun hc_8 => ?_) (fun hc_8 => ?_)
        · replace hc_8 := of_decide_eq_true hc_8
          refine WP_seq ?_
          refine WP_region ?_
          refine S_v E rfl (R_fieldAddr E rfl (FA24_1 _)) rfl ?_
          clear E a; intro a E
          refine S_v E rfl (R_loadM E rfl Try.isAgg3 S.imm (cellM_boxo hb_1 rfl)) rfl ?_
          clear E a; intro a E
          refine S_v E rfl (R_assign E rfl) rfl ?_
          clear E a; intro a E
          refine WL_nil ?_
          refine T_n ?_
          refine WP_ret ?_
          refine B_r ?_
          refine T_r ?_
          exact F_ret1 E Try.results193 rfl ⟨_, rfl, M_2, hM_2, (congrArg (Value.int .i64) (by (clear E S; unfold keyAt w64; first | (simp [*]; done) | (simp_all; done)))), S⟩
        · replace hc_8 := of_decide_eq_false hc_8
          refine WP_seq ?_
          refine WP_region ?_
          refine S_v E rfl (R_eql E rfl rfl) rfl ?_
          clear E a; intro a E
          refine S_v E rfl (R_assign E rfl) rfl ?_
          clear E a; intro a E
          refine WL_nil ?_
          refine T_n ?_
          refine WP_cond E rfl (fun hc_9 => ?_) (fun hc_9 => ?_)
          · replace hc_9 := of_decide_eq_true hc_9
            refine WP_seq ?_
            refine WP_region ?_
            refine S_v E rfl (R_move E rfl) rfl ?_
            clear E a; intro a E
            refine S_v E rfl (R_assign E rfl) rfl ?_
            clear E a; intro a E
            refine WL_nil ?_
            refine T_n ?_
            refine WP_ret ?_
            refine B_r ?_
            refine T_r ?_
            exact F_ret1 E Try.results193 rfl ⟨_, rfl, M_2, hM_2, (congrArg (Value.int .i64) (by (clear E S; unfold keyAt w64; first | (simp [*]; done) | (simp_all; done)))), S⟩
          · replace hc_9 := of_decide_eq_false hc_9
            refine WP_skip ?_
            refine B_n ?_
            refine T_n ?_
            refine WP_seq ?_
            refine WP_region ?_
            refine S_v E rfl (R_move E rfl) rfl ?_
            clear E a; intro a E
            refine S_v E rfl (R_assign E rfl) rfl ?_
            clear E a; intro a E
            refine WL_nil ?_
            refine T_n ?_
            refine WP_ret ?_
            exact F_ret1 E Try.results193 rfl ⟨_, rfl, M_2, hM_2, (congrArg (Value.int .i64) (by (clear E S; unfold keyAt w64; first | (simp [*]; done) | (simp_all; done)))), S⟩
theorem Key_at {M : Hp} {kk0 kn0 : Int} (gk0 : -9223372036854775808 ≤ kn0 ∧ kn0 ≤ 9223372036854775807){x1 x2 : Int} :
    Pu Try.prog (.func (.func 193) #[.agg #[.int .i64 kk0, .int .i64 kn0]] #[]) M [.int .i64 x1, .int .i64 x2] (fun r M' => r = .int .i64 (keyAt kk0 kn0 x1 x2)) := PuC.pu Try.call193 rfl (Key_at_c gk0)
theorem Key_at_d {M : Hp} {kk0 kn0 : Int} (gk0 : -9223372036854775808 ≤ kn0 ∧ kn0 ≤ 9223372036854775807){x1 x2 : Int} :
    Pu Try.prog (.func (.func 193) #[] #[]) M [.agg #[.int .i64 kk0, .int .i64 kn0], .int .i64 x1, .int .i64 x2] (fun r M' => r = .int .i64 (keyAt kk0 kn0 x1 x2)) := PuC.pu Try.call193 rfl (Key_at_c gk0)

set_option maxRecDepth 100000 in
set_option maxHeartbeats 4000000 in
theorem Key_of_c {M : Hp} {kk0 kn0 : Int} (gk0 : -9223372036854775808 ≤ kn0 ∧ kn0 ≤ 9223372036854775807){x1 : Int} :
    PuC Try.prog 148 M [.agg #[.int .i64 kk0, .int .i64 kn0], .int .i64 x1] (fun r M' => r = .int .i64 (keyAt kk0 kn0 x1 0)) := by
  refine PuC_enter Try.func148 rfl Try.ntmps148 rfl ?_
  intro a w M1 H hM1 S E
  refine WP_seq ?_
  refine WP_region ?_
  refine S_x (X_box (cs := #[.int .i64 kk0, .int .i64 kn0]) E S rfl rfl rfl ?_)
  clear E a S; rintro a w b_1 E S
  obtain ⟨M_2, hM_2, hb_1, S⟩ := S.freezeB
  refine S_v E rfl (R_assign E rfl) rfl ?_
  clear E a; intro a E
  refine WL_nil ?_
  refine T_n ?_
  refine WP_seq ?_
  refine WP_region ?_
  refine S_v E rfl (R_loadGM E rfl (Try.isAgg24 _) (Try.sizeOf24 _) S.imm hb_1) rfl ?_
  clear E a; intro a E
  refine S_v E rfl (R_move E rfl) rfl ?_
  clear E a; intro a E
  refine S_x (X_pu E S rfl rfl rfl (Key_at_d (by omega)) (Hp.le.refl _) ?_)
  clear E a S; rintro a _ w M_3 hM_3 rfl S E
  replace hb_1 := hM_3.2 _ _ hb_1
  refine S_v E rfl (R_assign E rfl) rfl ?_
  clear E a; intro a E
  refine WL_nil ?_
  refine T_n ?_
  refine WP_ret ?_
  exact F_ret1 E Try.results148 rfl ⟨_, rfl, M_3, (hM_2.trans hM_3), rfl, S⟩
theorem Key_of {M : Hp} {kk0 kn0 : Int} (gk0 : -9223372036854775808 ≤ kn0 ∧ kn0 ≤ 9223372036854775807){x1 : Int} :
    Pu Try.prog (.func (.func 148) #[.agg #[.int .i64 kk0, .int .i64 kn0]] #[]) M [.int .i64 x1] (fun r M' => r = .int .i64 (keyAt kk0 kn0 x1 0)) := PuC.pu Try.call148 rfl (Key_of_c gk0)
theorem Key_of_d {M : Hp} {kk0 kn0 : Int} (gk0 : -9223372036854775808 ≤ kn0 ∧ kn0 ≤ 9223372036854775807){x1 : Int} :
    Pu Try.prog (.func (.func 148) #[] #[]) M [.agg #[.int .i64 kk0, .int .i64 kn0], .int .i64 x1] (fun r M' => r = .int .i64 (keyAt kk0 kn0 x1 0)) := PuC.pu Try.call148 rfl (Key_of_c gk0)

set_option maxRecDepth 100000 in
set_option maxHeartbeats 4000000 in
theorem impl_MinBy1 {M : Hp} {kk9 kn9 : Int} (gk9 : -9223372036854775808 ≤ kn9 ∧ kn9 ≤ 9223372036854775807) {bx9 : Nat} (hbx9 : M bx9 = some (.cells #[.int .i64 kk9, .int .i64 kn9] 24)) {x0 x1 : Int} :
    Pu Try.prog (.func (.func 147) #[] #[.pointer (some ⟨bx9, 0, none⟩)]) M [.int .i64 x0, .int .i64 x1] (fun r M' => r = .bool (kLt kk9 kn9 x0 x1)) := by
  refine Pu_enter Try.func147 rfl Try.ntmps147 rfl Try.call147 ?_
  intro a w M1 H hM1 S E
  replace hbx9 := hM1.2 _ _ hbx9
  refine WP_seq ?_
  refine WP_region ?_
  refine S_v E rfl (R_assign E rfl) rfl ?_
  clear E a; intro a E
  refine WL_nil ?_
  refine T_n ?_
  refine WP_seq ?_
  have hbx9k0 := hbx9
  replace S := S.mono_heap (w' := World.drew _) rfl
  refine WP_drawn (C := fun x w => agree M1 w) (bf := (fun i => [])) [0, 1, 3, 4, 6, 7] [0, 1, 3, 4, 2, 5, 6, 7] Try.mixed (by kernel_rfl) (fun x hq => S.imm) ?_
  refine D_v E rfl rfl rfl (fun w hC => (R_loadGM E rfl (Try.isAgg24 _) (Try.sizeOf24 _) hC hbx9k0)) ?_
  clear E a; intro a E
  refine D_v E rfl rfl rfl (fun w hC => (R_move E rfl)) ?_
  clear E a; intro a E
  refine D_v E rfl rfl rfl (fun w hC => (R_loadGM E rfl (Try.isAgg24 _) (Try.sizeOf24 _) hC hbx9k0)) ?_
  clear E a; intro a E
  refine D_v E rfl rfl rfl (fun w hC => (R_move E rfl)) ?_
  clear E a; intro a E
  refine D_x rfl rfl rfl (X_pu E S rfl rfl rfl (Key_of_d (by omega)) (Hp.le.refl _) ?_)
  clear E a S; rintro a _ w M_1 hM_1 rfl S E
  replace hbx9 := hM_1.2 _ _ hbx9
  refine ⟨fun x hq hb => (agree_le hM_1 S.imm), ?_⟩
  refine D_x rfl rfl rfl (X_pu E S rfl rfl rfl (Key_of_d (by omega)) (Hp.le.refl _) ?_)
  clear E a S; rintro a _ w M_2 hM_2 rfl S E
  replace hbx9 := hM_2.2 _ _ hbx9
  refine ⟨fun x hq hb => (agree_le (hM_1.trans hM_2) S.imm), ?_⟩
  refine D_v E rfl rfl rfl (fun w hC => (R_lss E rfl rfl)) ?_
  clear E a; intro a E
  refine D_v E rfl rfl rfl (fun w hC => (R_assign E rfl)) ?_
  clear E a; intro a E
  refine D_end (NoP_n ?_)
  refine T_n ?_
  refine WP_ret ?_
  exact F_ret1 E Try.results147 rfl ⟨_, rfl, M_2, (hM_1.trans hM_2), (congrArg Value.bool (by ((try clear S); (try clear E); first | assumption | omega | rfl | (simp; done) | (simp_all; done) | (simp [List.take_add_one, *]; done) | grind [List.take_add_one]))), S⟩

set_option maxRecDepth 100000 in
set_option maxHeartbeats 4000000 in
theorem impl_MinBy {M : Hp} {v0 : Value} {l0 : List Int} (h0 : RdI M v0 l0){kk1 kn1 : Int} (gk1 : -9223372036854775808 ≤ kn1 ∧ kn1 ≤ 9223372036854775807) :
    Pu Try.prog (.func (.func 25) #[] #[]) M [v0, .agg #[.int .i64 kk1, .int .i64 kn1]] (fun r M' => r = .int .i64 (bV (kLt kk1 kn1) l0)) := by
  refine Pu_enter Try.func25 rfl Try.ntmps25 rfl Try.call25 ?_
  intro a w M1 H hM1 S E
  replace h0 := h0.le hM1
  have b0 := h0.bound
  refine WP_seq ?_
  refine WP_region ?_
  refine S_x (X_box (cs := #[.int .i64 kk1, .int .i64 kn1]) E S rfl rfl rfl ?_)
  clear E a S; rintro a w b_1 E S
  obtain ⟨M_2, hM_2, hb_1, S⟩ := S.freezeB
  replace h0 := h0.le hM_2
  refine S_v E rfl (R_assign E rfl) rfl ?_
  clear E a; intro a E
  refine WL_nil ?_
  refine T_n ?_
  refine WP_seq ?_
  refine WP_region ?_
  refine S_v E rfl (R_move E rfl) rfl ?_
  clear E a; intro a E
  refine S_v E rfl (R_makeFunc E rfl rfl) rfl ?_
  clear E a; intro a E
  refine S_x (X_pu E S rfl rfl rfl (lo_MinBy h0 ⟨rfl, fun zx0 zx1 => impl_MinBy1 (x0 := zx0) (x1 := zx1) (by omega) hb_1⟩) (Hp.le.refl _) ?_)
  clear E a S; rintro a _ w M_3 hM_3 rfl S E
  replace h0 := h0.le hM_3
  replace hb_1 := hM_3.2 _ _ hb_1
  refine S_v E rfl (R_assign E rfl) rfl ?_
  clear E a; intro a E
  refine WL_nil ?_
  refine T_n ?_
  refine WP_ret ?_
  exact F_ret1 E Try.results25 rfl ⟨_, rfl, M_3, (hM_2.trans hM_3), rfl, S⟩

set_option maxRecDepth 100000 in
set_option maxHeartbeats 4000000 in
theorem lo_MaxBy {M : Hp} {v0 : Value} {l0 : List Int} (h0 : RdI M v0 l0){v1 : Value} {f1 : Int → Int → Bool} (h1 : PF2B Try.prog v1 M f1) :
    Pu Try.prog (.func (.func 149) #[] #[]) M [v0, v1] (fun r M' => r = .int .i64 (bV f1 l0)) := by
  refine Pu_enter Try.func149 rfl Try.ntmps149 rfl Try.call149 ?_
  intro a w M1 H hM1 S E
  replace h0 := h0.le hM1
  replace h1 := h1.le hM1
  have b0 := h0.bound
  refine WP_seq ?_
  refine WP_region ?_
  refine S_v E rfl (R_assign E rfl) rfl ?_
  clear E a; intro a E
  refine WL_nil ?_
  refine T_n ?_
  refine WP_seq ?_
  refine WP_region ?_
  refine S_v E rfl (R_assign E rfl) rfl ?_
  clear E a; intro a E
  refine WL_nil ?_
  refine T_n ?_
  refine WP_seq ?_
  refine WP_seq ?_
  refine WP_region ?_
  refine S_v E rfl (R_move E rfl) rfl ?_
  clear E a; intro a E
  refine S_v E rfl (R_lenV E rfl T22 h0.len) rfl ?_
  clear E a; intro a E
  refine S_v E rfl (R_eql E rfl rfl) rfl ?_
  clear E a; intro a E
  refine WL_nil ?_
  refine T_n ?_
  refine WP_cond E rfl (fun hc_1 => ?_) (fun hc_1 => ?_)
  · replace hc_1 := of_decide_eq_true hc_1
    refine WP_seq ?_
    refine WP_region ?_
    refine S_v E rfl (R_move E rfl) rfl ?_
    clear E a; intro a E
    refine S_v E rfl (R_assign E rfl) rfl ?_
    clear E a; intro a E
    refine WL_nil ?_
    refine T_n ?_
    refine WP_ret ?_
    refine T_r ?_
    exact F_ret1 E Try.results149 rfl ⟨_, rfl, M1, (Hp.le.refl _), (congrArg (Value.int .i64) (by (first | (have e := List.eq_nil_of_length_eq_zero (l := l0) (by omega); subst e; rfl) | (rw [List.take_of_length_le (by omega)])))), S⟩
  · replace hc_1 := of_decide_eq_false hc_1
    refine WP_skip ?_
    refine T_n ?_
    refine WP_seq ?_
    refine WP_region ?_
    refine S_v E rfl (R_move E rfl) rfl ?_
    clear E a; intro a E
    obtain ⟨x_2, hx_2⟩ : ∃ x, (l0)[0]? = some x := ⟨_, List.getElem?_eq_getElem (by first | omega | (simp; done) | (simp; omega) | (simp_all; omega))⟩
    obtain ⟨p_3, hp_3, qp_3⟩ := h0.at hx_2
    refine S_v E rfl (R_idx E rfl rfl T22 hp_3 (by omega)) rfl ?_
    clear E a; intro a E
    refine S_v E rfl (R_loadM E rfl Try.isAgg3 S.imm qp_3) rfl ?_
    clear E a; intro a E
    refine S_v E rfl (R_assign E rfl) rfl ?_
    clear E a; intro a E
    refine WL_nil ?_
    refine T_n ?_
    refine WP_seq ?_
    refine WP_seq ?_
    refine WP_region ?_
    refine S_v E rfl (R_assign E rfl) rfl ?_
    clear E a; intro a E
    refine WL_nil ?_
    refine T_n ?_
    refine WP_block ?_
    refine WP_loop (γ := Nat) (fun (k : Nat) a w => ∃ (M_4 : Hp), Hp.le M1 M_4 ∧ St w M_4 (H) ∧ Env a 31 [] [(0, v0), (1, v1), (5, .int .i64 (bV f1 (l0.take (k + 1)))), (6, .int .i64 ((k + 1 : Nat) : Int))] ∧ (k + 1 ≤ l0.length)) (fun k => l0.length - k) 0 ⟨M1, Hp.le.refl _, S, E.keep ⟨rfl, rfl, look_int (i := x_2) rfl (by (rw [bV_take (by assumption)]; simp)), look_nat (i := 1) rfl (by (simp)), trivial⟩, (by omega)⟩ ?_
    try clear E
    try clear S
    try clear a
    try clear w
    rintro k a w ⟨M_4, hM_4, S, E, hL0_0⟩
    replace h0 := h0.le hM_4
    replace h1 := h1.le hM_4
    refine WP_seq ?_
    refine WP_seq ?_
    refine WP_region ?_
    refine S_v E rfl (R_move E rfl) rfl ?_
    clear E a; intro a E
    refine S_v E rfl (R_move E rfl) rfl ?_
    clear E a; intro a E
    refine S_v E rfl (R_lenV E rfl T22 h0.len) rfl ?_
    clear E a; intro a E
    refine S_v E rfl (R_lss E rfl rfl) rfl ?_
    clear E a; intro a E
    refine WL_nil ?_
    refine T_n ?_
    refine WP_cond E rfl (fun hc_5 => ?_) (fun hc_5 => ?_)
    · replace hc_5 := of_decide_eq_true hc_5
      refine WP_skip ?_
      refine T_n ?_
      refine WP_seq ?_
      refine WP_block ?_
      refine WP_seq ?_
      refine WP_region ?_
      refine S_v E rfl (R_move E rfl) rfl ?_
      clear E a; intro a E
      refine S_v E rfl (R_move E rfl) rfl ?_
      clear E a; intro a E
      obtain ⟨x_6, hx_6⟩ : ∃ x, (l0)[k + 1]? = some x := ⟨_, List.getElem?_eq_getElem (by first | omega | (simp; done) | (simp; omega) | (simp_all; omega))⟩
      obtain ⟨p_7, hp_7, qp_7⟩ := h0.at hx_6
      refine S_v E rfl (R_idx E rfl rfl T22 hp_7 rfl) rfl ?_
      clear E a; intro a E
      refine S_v E rfl (R_loadM E rfl Try.isAgg3 S.imm qp_7) rfl ?_
      clear E a; intro a E
      refine S_v E rfl (R_assign E rfl) rfl ?_
      clear E a; intro a E
      refine WL_nil ?_
      refine T_n ?_
      refine WP_seq ?_
      refine WP_region ?_
      refine S_v E rfl (R_move E rfl) rfl ?_
      clear E a; intro a E
      refine S_v E rfl (R_move E rfl) rfl ?_
      clear E a; intro a E
      refine S_v E rfl (R_move E rfl) rfl ?_
      clear E a; intro a E
      refine S_x (X_pu E S rfl rfl rfl (h1.2 x_6 (bV f1 (l0.take (k + 1)))) (Hp.le.refl _) ?_)
      clear E a S; rintro a _ w M_8 hM_8 rfl S E
      replace h0 := h0.le hM_8
      replace h1 := h1.le hM_8
      refine WL_nil ?_
      refine T_n ?_
      refine WP_cond E rfl (fun hc_9 => ?_) (fun hc_9 => ?_)
      · refine WP_region ?_
        refine S_v E rfl (R_move E rfl) rfl ?_
        clear E a; intro a E
        refine S_v E rfl (R_assign E rfl) rfl ?_
        clear E a; intro a E
        refine WL_nil ?_
        refine B_n ?_
        refine T_n ?_
        refine WP_region ?_
        refine S_v E rfl (R_move E rfl) rfl ?_
        clear E a; intro a E
        refine S_v E rfl (R_addx (m := ((k + 1 + 1 : Nat) : Int)) E rfl rfl (by omega) (by omega)) rfl ?_
        clear E a; intro a E
        refine S_v E rfl (R_assign E rfl) rfl ?_
        clear E a; intro a E
        refine WL_nil ?_
        refine T_n ?_
        exact ⟨k + 1, ⟨M_8, (hM_4.trans hM_8), S, E.keep ⟨rfl, rfl, look_int (i := x_6) rfl (by (rw [bV_take (k := k + 1) (by assumption)]; first | (rw [if_pos]; right; (first | assumption | (simp only [ltb, gtb, kLt, kGt, decide_eq_true_eq]; assumption) | (simp only [cg, ltb, gtb, kLt, kGt]; simp_all; done))) | (rw [if_neg]; ((intro hz; rcases hz with hz | hz; omega; ((try simp only [ltb, gtb, kLt, kGt, decide_eq_true_eq] at hz); first | contradiction | omega | (simp_all; done))))))), look_nat (i := k + 1 + 1) rfl (by (omega)), trivial⟩, (by omega)⟩, by omega⟩
      · refine WP_skip ?_
        refine B_n ?_
        refine T_n ?_
        refine WP_region ?_
        refine S_v E rfl (R_move E rfl) rfl ?_
        clear E a; intro a E
        refine S_v E rfl (R_addx (m := ((k + 1 + 1 : Nat) : Int)) E rfl rfl (by omega) (by omega)) rfl ?_
        clear E a; intro a E
        refine S_v E rfl (R_assign E rfl) rfl ?_
        clear E a; intro a E
        refine WL_nil ?_
        refine T_n ?_
        exact ⟨k + 1, ⟨M_8, (hM_4.trans hM_8), S, E.keep ⟨rfl, rfl, look_int (i := bV f1 (l0.take (k + 1))) rfl (by (rw [bV_take (k := k + 1) (by assumption)]; first | (rw [if_pos]; right; (first | assumption | (simp only [ltb, gtb, kLt, kGt, decide_eq_true_eq]; assumption) | (simp only [cg, ltb, gtb, kLt, kGt]; simp_all; done))) | (rw [if_neg]; ((intro hz; rcases hz with hz | hz; omega; ((try simp only [ltb, gtb, kLt, kGt, decide_eq_true_eq] at hz); first | contradiction | omega | (simp_all; done))))))), look_nat (i := k + 1 + 1) rfl (by (omega)), trivial⟩, (by omega)⟩, by omega⟩
    · replace hc_5 := of_decide_eq_false hc_5
      refine WP_exit ?_
      refine T_x ?_
      refine T_x ?_
      refine B_x ?_
      refine T_n ?_
      refine WP_seq ?_
      refine WP_region ?_
      refine S_v E rfl (R_move E rfl) rfl ?_
      clear E a; intro a E
      refine S_v E rfl (R_assign E rfl) rfl ?_
      clear E a; intro a E
      refine WL_nil ?_
      refine T_n ?_
      refine WP_ret ?_
      exact F_ret1 E Try.results149 rfl ⟨_, rfl, M_4, hM_4, (congrArg (Value.int .i64) (by (first | (have e := List.eq_nil_of_length_eq_zero (l := l0) (by omega); subst e; rfl) | (rw [List.take_of_length_le (by omega)])))), S⟩

set_option maxRecDepth 100000 in
set_option maxHeartbeats 4000000 in
theorem impl_MaxBy1 {M : Hp} {kk9 kn9 : Int} (gk9 : -9223372036854775808 ≤ kn9 ∧ kn9 ≤ 9223372036854775807) {bx9 : Nat} (hbx9 : M bx9 = some (.cells #[.int .i64 kk9, .int .i64 kn9] 24)) {x0 x1 : Int} :
    Pu Try.prog (.func (.func 150) #[] #[.pointer (some ⟨bx9, 0, none⟩)]) M [.int .i64 x0, .int .i64 x1] (fun r M' => r = .bool (kGt kk9 kn9 x0 x1)) := by
  refine Pu_enter Try.func150 rfl Try.ntmps150 rfl Try.call150 ?_
  intro a w M1 H hM1 S E
  replace hbx9 := hM1.2 _ _ hbx9
  refine WP_seq ?_
  refine WP_region ?_
  refine S_v E rfl (R_assign E rfl) rfl ?_
  clear E a; intro a E
  refine WL_nil ?_
  refine T_n ?_
  refine WP_seq ?_
  have hbx9k0 := hbx9
  replace S := S.mono_heap (w' := World.drew _) rfl
  refine WP_drawn (C := fun x w => agree M1 w) (bf := (fun i => [])) [0, 1, 3, 4, 6, 7] [0, 1, 3, 4, 2, 5, 6, 7] Try.mixed (by kernel_rfl) (fun x hq => S.imm) ?_
  refine D_v E rfl rfl rfl (fun w hC => (R_loadGM E rfl (Try.isAgg24 _) (Try.sizeOf24 _) hC hbx9k0)) ?_
  clear E a; intro a E
  refine D_v E rfl rfl rfl (fun w hC => (R_move E rfl)) ?_
  clear E a; intro a E
  refine D_v E rfl rfl rfl (fun w hC => (R_loadGM E rfl (Try.isAgg24 _) (Try.sizeOf24 _) hC hbx9k0)) ?_
  clear E a; intro a E
  refine D_v E rfl rfl rfl (fun w hC => (R_move E rfl)) ?_
  clear E a; intro a E
  refine D_x rfl rfl rfl (X_pu E S rfl rfl rfl (Key_of_d (by omega)) (Hp.le.refl _) ?_)
  clear E a S; rintro a _ w M_1 hM_1 rfl S E
  replace hbx9 := hM_1.2 _ _ hbx9
  refine ⟨fun x hq hb => (agree_le hM_1 S.imm), ?_⟩
  refine D_x rfl rfl rfl (X_pu E S rfl rfl rfl (Key_of_d (by omega)) (Hp.le.refl _) ?_)
  clear E a S; rintro a _ w M_2 hM_2 rfl S E
  replace hbx9 := hM_2.2 _ _ hbx9
  refine ⟨fun x hq hb => (agree_le (hM_1.trans hM_2) S.imm), ?_⟩
  refine D_v E rfl rfl rfl (fun w hC => (R_gtr E rfl rfl)) ?_
  clear E a; intro a E
  refine D_v E rfl rfl rfl (fun w hC => (R_assign E rfl)) ?_
  clear E a; intro a E
  refine D_end (NoP_n ?_)
  refine T_n ?_
  refine WP_ret ?_
  exact F_ret1 E Try.results150 rfl ⟨_, rfl, M_2, (hM_1.trans hM_2), (congrArg Value.bool (by ((try clear S); (try clear E); first | assumption | omega | rfl | (simp; done) | (simp_all; done) | (simp [List.take_add_one, *]; done) | grind [List.take_add_one]))), S⟩

set_option maxRecDepth 100000 in
set_option maxHeartbeats 4000000 in
theorem impl_MaxBy {M : Hp} {v0 : Value} {l0 : List Int} (h0 : RdI M v0 l0){kk1 kn1 : Int} (gk1 : -9223372036854775808 ≤ kn1 ∧ kn1 ≤ 9223372036854775807) :
    Pu Try.prog (.func (.func 26) #[] #[]) M [v0, .agg #[.int .i64 kk1, .int .i64 kn1]] (fun r M' => r = .int .i64 (bV (kGt kk1 kn1) l0)) := by
  refine Pu_enter Try.func26 rfl Try.ntmps26 rfl Try.call26 ?_
  intro a w M1 H hM1 S E
  replace h0 := h0.le hM1
  have b0 := h0.bound
  refine WP_seq ?_
  refine WP_region ?_
  refine S_x (X_box (cs := #[.int .i64 kk1, .int .i64 kn1]) E S rfl rfl rfl ?_)
  clear E a S; rintro a w b_1 E S
  obtain ⟨M_2, hM_2, hb_1, S⟩ := S.freezeB
  replace h0 := h0.le hM_2
  refine S_v E rfl (R_assign E rfl) rfl ?_
  clear E a; intro a E
  refine WL_nil ?_
  refine T_n ?_
  refine WP_seq ?_
  refine WP_region ?_
  refine S_v E rfl (R_move E rfl) rfl ?_
  clear E a; intro a E
  refine S_v E rfl (R_makeFunc E rfl rfl) rfl ?_
  clear E a; intro a E
  refine S_x (X_pu E S rfl rfl rfl (lo_MaxBy h0 ⟨rfl, fun zx0 zx1 => impl_MaxBy1 (x0 := zx0) (x1 := zx1) (by omega) hb_1⟩) (Hp.le.refl _) ?_)
  clear E a S; rintro a _ w M_3 hM_3 rfl S E
  replace h0 := h0.le hM_3
  replace hb_1 := hM_3.2 _ _ hb_1
  refine S_v E rfl (R_assign E rfl) rfl ?_
  clear E a; intro a E
  refine WL_nil ?_
  refine T_n ?_
  refine WP_ret ?_
  exact F_ret1 E Try.results26 rfl ⟨_, rfl, M_3, (hM_2.trans hM_3), rfl, S⟩

set_option maxRecDepth 100000 in
set_option maxHeartbeats 4000000 in
theorem it_MinBy {M : Hp} {v0 : Value} {l0 : List Int} (h0 : SeqV Try.prog v0 M (RInt) l0){v1 : Value} {f1 : Int → Int → Bool} (h1 : PF2B Try.prog v1 M f1) :
    Pu Try.prog (.func (.func 151) #[] #[]) M [v0, v1] (fun r M' => r = .int .i64 (bV f1 l0)) := by
  refine Pu_enter Try.func151 rfl Try.ntmps151 rfl Try.call151 ?_
  intro a w M1 H hM1 S E
  replace h0 := h0.le hM1
  replace h1 := h1.le hM1
  replace S : St w M1 (mks [] :: _) := S.empty
  replace E : Env a 18 (([] : List Nat).map mk) _ := E
  refine WP_seq ?_
  refine WP_region ?_
  refine S_x (X_box (cs := #[v1]) E S rfl rfl (cells_one h1.1) ?_)
  clear E a S; rintro a w b_1 E S
  obtain ⟨M_2, hM_2, hb_1, S⟩ := S.freezeB
  replace h0 := h0.le hM_2
  replace h1 := h1.le hM_2
  refine S_v E rfl (R_assign E rfl) rfl ?_
  clear E a; intro a E
  refine WL_nil ?_
  refine T_n ?_
  refine WP_seq ?_
  refine WP_region ?_
  refine S_x (X_alloc (cs := #[.bool false]) E S rfl Try.zeroValue4 rfl ?_)
  clear E a S; rintro a w b_3 E S
  refine S_x0 (X_store E S rfl rfl (Try.sizeOf4 _) rfl ?_)
  clear E a S; rintro a w E S
  refine WL_nil ?_
  refine T_n ?_
  refine WP_seq ?_
  refine WP_region ?_
  refine S_x (X_alloc (cs := #[.int .i64 0]) E S rfl Try.zeroValue3 rfl ?_)
  clear E a S; rintro a w b_4 E S
  refine WL_nil ?_
  refine T_n ?_
  refine WP_seq ?_
  refine WP_seq ?_
  refine WP_region ?_
  refine S_v E rfl (R_move E rfl) rfl ?_
  clear E a; intro a E
  refine WL_nil ?_
  refine T_n ?_
  refine WP_block ?_
  replace S := S.front1
  replace S := S.front1
  replace E := E.keep (l' := [(3, .pointer (some ⟨b_1, 0, none⟩)), (5, .pointer (some ⟨b_3, 0, none⟩)), (6, .pointer (some ⟨b_4, 0, none⟩)), (8, v0)]) ⟨rfl, rfl, rfl, rfl, trivial⟩
  replace S := S.front1
  replace S := S.blk_bool (j := (([] : List Int)).isEmpty) (by (first | rfl | exact isE_app (by assumption) | exact isE_app2 (by assumption) | (simp; done) | (rw [List.isEmpty_append]; simp_all; done) | (simp [List.isEmpty_iff] at *; simp_all; done) | (rw [bV_app]; (first | (rw [if_pos]; left; simp_all; done) | (rw [if_pos]; right; (first | assumption | (simp only [ltb, gtb, kLt, kGt, decide_eq_true_eq]; assumption) | (simp only [cg, ltb, gtb, kLt, kGt]; simp_all; done))) | (rw [if_neg]; intro hz; rcases hz with hz | hz <;> simp_all; done))) | (simp_all; done)))
  replace S := S.front1
  replace S := S.blk_int (j := bV f1 (([] : List Int))) (by (first | rfl | exact isE_app (by assumption) | exact isE_app2 (by assumption) | (simp; done) | (rw [List.isEmpty_append]; simp_all; done) | (simp [List.isEmpty_iff] at *; simp_all; done) | (rw [bV_app]; (first | (rw [if_pos]; left; simp_all; done) | (rw [if_pos]; right; (first | assumption | (simp only [ltb, gtb, kLt, kGt, decide_eq_true_eq]; assumption) | (simp only [cg, ltb, gtb, kLt, kGt]; simp_all; done))) | (rw [if_neg]; intro hz; rcases hz with hz | hz <;> simp_all; done))) | (simp_all; done)))
  have S0 := S; clear S; have S := St.pack [blk b_4 (.cells #[.int .i64 (bV f1 (([] : List Int)))] 3), blk b_3 (.cells #[.bool ((([] : List Int)).isEmpty)] 4)] S0; clear S0
  refine WP_range (RV := RInt) (l := l0) (fun pre M c => c = bigs [blk b_4 (.cells #[.int .i64 (bV f1 (pre))] 3), blk b_3 (.cells #[.bool ((pre).isEmpty)] 4)]) (fun _ _ _ _ => False) E S rfl h0 (Hp.le.refl _) (fun _ _ _ h => by rw [h]; rfl) (by decide) (by rintro _ M M' c hM rfl; exact rfl) rfl ?_ ?_ ?_
  clear E S
  · rintro lb_6 rec_7 pre x _ a w M_5 _ G hM_5 hp_8 rfl rfl E S
    replace E : Env a 18 [] [(9, .int .i64 x), (3, .pointer (some ⟨b_1, 0, none⟩)), (5, .pointer (some ⟨b_3, 0, none⟩)), (6, .pointer (some ⟨b_4, 0, none⟩)), (8, v0)] := E
    replace S := S.swap.unpack2
    have hq0 := prefix_lt hp_8
    replace h0 := h0.le hM_5
    replace h1 := h1.le hM_5
    replace hb_1 := hM_5.2 _ _ hb_1
    refine WP_region ?_
    refine S_v E rfl (R_assign E rfl) rfl ?_
    clear E a; intro a E
    refine WL_nil ?_
    refine T_n ?_
    replace S := S.front2
    refine rb S ?_
    clear S; intro w S
    refine WP_block ?_
    refine WP_seq ?_
    refine WP_region ?_
    refine S_v E rfl (R_load E rfl (Try.isAgg4 _) (cell_blk (S.mem (.tail _ (.tail _ (.head _)))))) rfl ?_
    clear E a; intro a E
    refine WL_nil ?_
    refine T_n ?_
    refine WP_cond E rfl (fun hc_10 => ?_) (fun hc_10 => ?_)
    · refine WP_seq ?_
      refine WP_region ?_
      refine S_v E rfl (R_move E rfl) rfl ?_
      clear E a; intro a E
      replace S := S.front1
      refine S_x0 (X_store E S rfl rfl (Try.sizeOf3 _) rfl ?_)
      clear E a S; rintro a w E S
      refine WL_nil ?_
      refine T_n ?_
      refine WP_region ?_
      replace S := S.front2
      refine S_x0 (X_store E S rfl rfl (Try.sizeOf4 _) rfl ?_)
      clear E a S; rintro a w E S
      refine WL_nil ?_
      refine B_n ?_
      replace S := S.front1
      replace S := S.front1
      replace S := S.blk_bool (j := ((pre ++ [x])).isEmpty) (by (first | rfl | exact isE_app (by assumption) | exact isE_app2 (by assumption) | (simp; done) | (rw [List.isEmpty_append]; simp_all; done) | (simp [List.isEmpty_iff] at *; simp_all; done) | (rw [bV_app]; (first | (rw [if_pos]; left; simp_all; done) | (rw [if_pos]; right; (first | assumption | (simp only [ltb, gtb, kLt, kGt, decide_eq_true_eq]; assumption) | (simp only [cg, ltb, gtb, kLt, kGt]; simp_all; done))) | (rw [if_neg]; intro hz; rcases hz with hz | hz <;> simp_all; done))) | (simp_all; done)))
      replace S := S.front1
      replace S := S.blk_int (j := bV f1 ((pre ++ [x]))) (by (first | rfl | exact isE_app (by assumption) | exact isE_app2 (by assumption) | (simp; done) | (rw [List.isEmpty_append]; simp_all; done) | (simp [List.isEmpty_iff] at *; simp_all; done) | (rw [bV_app]; (first | (rw [if_pos]; left; simp_all; done) | (rw [if_pos]; right; (first | assumption | (simp only [ltb, gtb, kLt, kGt, decide_eq_true_eq]; assumption) | (simp only [cg, ltb, gtb, kLt, kGt]; simp_all; done))) | (rw [if_neg]; intro hz; rcases hz with hz | hz <;> simp_all; done))) | (simp_all; done)))
      have S0 := S; clear S; have S := (St.pack [blk b_4 (.cells #[.int .i64 (bV f1 ((pre ++ [x])))] 3), blk b_3 (.cells #[.bool (((pre ++ [x])).isEmpty)] 4)] S0).swap; clear S0
      exact ⟨M_5, _, (Hp.le.refl _), rfl, S⟩
    · refine WP_seq ?_
      refine WP_region ?_
      refine S_v E rfl (R_loadM E rfl Try.isAgg119 S.imm (cellM_box hb_1)) rfl ?_
      clear E a; intro a E
      refine S_v E rfl (R_move E rfl) rfl ?_
      clear E a; intro a E
      refine S_v E rfl (R_load E rfl (Try.isAgg3 _) (cell_blk (S.mem (.tail _ (.head _))))) rfl ?_
      clear E a; intro a E
      refine S_x (X_pu E S rfl rfl rfl (h1.2 x (bV f1 (pre))) (Hp.le.refl _) ?_)
      clear E a S; rintro a _ w M_11 hM_11 rfl S E
      replace h0 := h0.le hM_11
      replace h1 := h1.le hM_11
      replace hb_1 := hM_11.2 _ _ hb_1
      refine WL_nil ?_
      refine T_n ?_
      refine WP_cond E rfl (fun hc_12 => ?_) (fun hc_12 => ?_)
      · refine WP_region ?_
        refine S_v E rfl (R_move E rfl) rfl ?_
        clear E a; intro a E
        replace S := S.front1
        refine S_x0 (X_store E S rfl rfl (Try.sizeOf3 _) rfl ?_)
        clear E a S; rintro a w E S
        refine WL_nil ?_
        refine B_n ?_
        replace S := S.front2
        replace S := S.front1
        replace S := S.front1
        replace S := S.blk_bool (j := ((pre ++ [x])).isEmpty) (by (first | rfl | exact isE_app (by assumption) | exact isE_app2 (by assumption) | (simp; done) | (rw [List.isEmpty_append]; simp_all; done) | (simp [List.isEmpty_iff] at *; simp_all; done) | (rw [bV_app]; (first | (rw [if_pos]; left; simp_all; done) | (rw [if_pos]; right; (first | assumption | (simp only [ltb, gtb, kLt, kGt, decide_eq_true_eq]; assumption) | (simp only [cg, ltb, gtb, kLt, kGt]; simp_all; done))) | (rw [if_neg]; intro hz; rcases hz with hz | hz <;> simp_all; done))) | (simp_all; done)))
        replace S := S.front1
        replace S := S.blk_int (j := bV f1 ((pre ++ [x]))) (by (first | rfl | exact isE_app (by assumption) | exact isE_app2 (by assumption) | (simp; done) | (rw [List.isEmpty_append]; simp_all; done) | (simp [List.isEmpty_iff] at *; simp_all; done) | (rw [bV_app]; (first | (rw [if_pos]; left; simp_all; done) | (rw [if_pos]; right; (first | assumption | (simp only [ltb, gtb, kLt, kGt, decide_eq_true_eq]; assumption) | (simp only [cg, ltb, gtb, kLt, kGt]; simp_all; done))) | (rw [if_neg]; intro hz; rcases hz with hz | hz <;> simp_all; done))) | (simp_all; done)))
        have S0 := S; clear S; have S := (St.pack [blk b_4 (.cells #[.int .i64 (bV f1 ((pre ++ [x])))] 3), blk b_3 (.cells #[.bool (((pre ++ [x])).isEmpty)] 4)] S0).swap; clear S0
        exact ⟨M_11, _, hM_11, rfl, S⟩
      · refine WP_skip ?_
        refine B_n ?_
        replace S := S.front2
        replace S := S.front2
        replace S := S.front1
        replace S := S.blk_bool (j := ((pre ++ [x])).isEmpty) (by (first | rfl | exact isE_app (by assumption) | exact isE_app2 (by assumption) | (simp; done) | (rw [List.isEmpty_append]; simp_all; done) | (simp [List.isEmpty_iff] at *; simp_all; done) | (rw [bV_app]; (first | (rw [if_pos]; left; simp_all; done) | (rw [if_pos]; right; (first | assumption | (simp only [ltb, gtb, kLt, kGt, decide_eq_true_eq]; assumption) | (simp only [cg, ltb, gtb, kLt, kGt]; simp_all; done))) | (rw [if_neg]; intro hz; rcases hz with hz | hz <;> simp_all; done))) | (simp_all; done)))
        replace S := S.front1
        replace S := S.blk_int (j := bV f1 ((pre ++ [x]))) (by (first | rfl | exact isE_app (by assumption) | exact isE_app2 (by assumption) | (simp; done) | (rw [List.isEmpty_append]; simp_all; done) | (simp [List.isEmpty_iff] at *; simp_all; done) | (rw [bV_app]; (first | (rw [if_pos]; left; simp_all; done) | (rw [if_pos]; right; (first | assumption | (simp only [ltb, gtb, kLt, kGt, decide_eq_true_eq]; assumption) | (simp only [cg, ltb, gtb, kLt, kGt]; simp_all; done))) | (rw [if_neg]; intro hz; rcases hz with hz | hz <;> simp_all; done))) | (simp_all; done)))
        have S0 := S; clear S; have S := (St.pack [blk b_4 (.cells #[.int .i64 (bV f1 ((pre ++ [x])))] 3), blk b_3 (.cells #[.bool (((pre ++ [x])).isEmpty)] 4)] S0).swap; clear S0
        exact ⟨M_11, _, hM_11, rfl, S⟩
  · rintro a w M_13 _ D_14 hM_13 rfl S E
    replace S := S.unpack2
    replace h0 := h0.le hM_13
    replace h1 := h1.le hM_13
    replace hb_1 := hM_13.2 _ _ hb_1
    refine B_n ?_
    refine T_n ?_
    refine WP_seq ?_
    refine WP_region ?_
    refine S_v E rfl (R_load E rfl (Try.isAgg3 _) (cell_blk (S.mem (.head _)))) rfl ?_
    clear E a; intro a E
    refine S_v E rfl (R_assign E rfl) rfl ?_
    clear E a; intro a E
    refine WL_nil ?_
    refine T_n ?_
    refine WP_ret ?_
    replace S := S.drop
    replace S := S.drop
    exact F_retM1 E S Try.results151 rfl (fun w S => ⟨_, rfl, M_13, (hM_2.trans hM_13), (congrArg (Value.int .i64) (by ((try clear S); (try clear E); first | assumption | omega | rfl | (simp; done) | (simp_all; done) | (simp [List.take_add_one, *]; done) | grind [List.take_add_one]))), S⟩)
  · rintro _ _ _ _ _ _ _ _ _ hX; exact hX.elim

set_option maxRecDepth 100000 in
set_option maxHeartbeats 4000000 in
theorem impl_MinBySeq1 {M : Hp} {kk9 kn9 : Int} (gk9 : -9223372036854775808 ≤ kn9 ∧ kn9 ≤ 9223372036854775807) {bx9 : Nat} (hbx9 : M bx9 = some (.cells #[.int .i64 kk9, .int .i64 kn9] 24)) {x0 x1 : Int} :
    Pu Try.prog (.func (.func 152) #[] #[.pointer (some ⟨bx9, 0, none⟩)]) M [.int .i64 x0, .int .i64 x1] (fun r M' => r = .bool (kLt kk9 kn9 x0 x1)) := by
  refine Pu_enter Try.func152 rfl Try.ntmps152 rfl Try.call152 ?_
  intro a w M1 H hM1 S E
  replace hbx9 := hM1.2 _ _ hbx9
  refine WP_seq ?_
  refine WP_region ?_
  refine S_v E rfl (R_assign E rfl) rfl ?_
  clear E a; intro a E
  refine WL_nil ?_
  refine T_n ?_
  refine WP_seq ?_
  have hbx9k0 := hbx9
  replace S := S.mono_heap (w' := World.drew _) rfl
  refine WP_drawn (C := fun x w => agree M1 w) (bf := (fun i => [])) [0, 1, 3, 4, 6, 7] [0, 1, 3, 4, 2, 5, 6, 7] Try.mixed (by kernel_rfl) (fun x hq => S.imm) ?_
  refine D_v E rfl rfl rfl (fun w hC => (R_loadGM E rfl (Try.isAgg24 _) (Try.sizeOf24 _) hC hbx9k0)) ?_
  clear E a; intro a E
  refine D_v E rfl rfl rfl (fun w hC => (R_move E rfl)) ?_
  clear E a; intro a E
  refine D_v E rfl rfl rfl (fun w hC => (R_loadGM E rfl (Try.isAgg24 _) (Try.sizeOf24 _) hC hbx9k0)) ?_
  clear E a; intro a E
  refine D_v E rfl rfl rfl (fun w hC => (R_move E rfl)) ?_
  clear E a; intro a E
  refine D_x rfl rfl rfl (X_pu E S rfl rfl rfl (Key_of_d (by omega)) (Hp.le.refl _) ?_)
  clear E a S; rintro a _ w M_1 hM_1 rfl S E
  replace hbx9 := hM_1.2 _ _ hbx9
  refine ⟨fun x hq hb => (agree_le hM_1 S.imm), ?_⟩
  refine D_x rfl rfl rfl (X_pu E S rfl rfl rfl (Key_of_d (by omega)) (Hp.le.refl _) ?_)
  clear E a S; rintro a _ w M_2 hM_2 rfl S E
  replace hbx9 := hM_2.2 _ _ hbx9
  refine ⟨fun x hq hb => (agree_le (hM_1.trans hM_2) S.imm), ?_⟩
  refine D_v E rfl rfl rfl (fun w hC => (R_lss E rfl rfl)) ?_
  clear E a; intro a E
  refine D_v E rfl rfl rfl (fun w hC => (R_assign E rfl)) ?_
  clear E a; intro a E
  refine D_end (NoP_n ?_)
  refine T_n ?_
  refine WP_ret ?_
  exact F_ret1 E Try.results152 rfl ⟨_, rfl, M_2, (hM_1.trans hM_2), (congrArg Value.bool (by ((try clear S); (try clear E); first | assumption | omega | rfl | (simp; done) | (simp_all; done) | (simp [List.take_add_one, *]; done) | grind [List.take_add_one]))), S⟩

set_option maxRecDepth 100000 in
set_option maxHeartbeats 4000000 in
theorem impl_MinBySeq {M : Hp} {v0 : Value} {l0 : List Int} (h0 : RdI M v0 l0){kk1 kn1 : Int} (gk1 : -9223372036854775808 ≤ kn1 ∧ kn1 ≤ 9223372036854775807) :
    Pu Try.prog (.func (.func 27) #[] #[]) M [v0, .agg #[.int .i64 kk1, .int .i64 kn1]] (fun r M' => r = .int .i64 (bV (kLt kk1 kn1) l0)) := by
  refine Pu_enter Try.func27 rfl Try.ntmps27 rfl Try.call27 ?_
  intro a w M1 H hM1 S E
  replace h0 := h0.le hM1
  have b0 := h0.bound
  refine WP_seq ?_
  refine WP_region ?_
  refine S_x (X_box (cs := #[.int .i64 kk1, .int .i64 kn1]) E S rfl rfl rfl ?_)
  clear E a S; rintro a w b_1 E S
  obtain ⟨M_2, hM_2, hb_1, S⟩ := S.freezeB
  replace h0 := h0.le hM_2
  refine S_v E rfl (R_assign E rfl) rfl ?_
  clear E a; intro a E
  refine WL_nil ?_
  refine T_n ?_
  refine WP_seq ?_
  refine WP_region ?_
  refine S_v E rfl (R_move E rfl) rfl ?_
  clear E a; intro a E
  refine S_x (X_pu E S rfl rfl rfl (slices_Values h0) (Hp.le.refl _) ?_)
  clear E a S; rintro a v_4 w M_3 hM_3 hv_4 S E
  replace h0 := h0.le hM_3
  replace hb_1 := hM_3.2 _ _ hb_1
  refine S_v E rfl (R_makeFunc E rfl rfl) rfl ?_
  clear E a; intro a E
  refine S_x (X_pu E S rfl rfl rfl (it_MinBy hv_4 ⟨rfl, fun zx0 zx1 => impl_MinBySeq1 (x0 := zx0) (x1 := zx1) (by omega) hb_1⟩) (Hp.le.refl _) ?_)
  clear E a S; rintro a _ w M_5 hM_5 rfl S E
  replace h0 := h0.le hM_5
  replace hb_1 := hM_5.2 _ _ hb_1
  replace hv_4 := hv_4.le hM_5
  refine S_v E rfl (R_assign E rfl) rfl ?_
  clear E a; intro a E
  refine WL_nil ?_
  refine T_n ?_
  refine WP_ret ?_
  exact F_ret1 E Try.results27 rfl ⟨_, rfl, M_5, (hM_2.trans (hM_3.trans hM_5)), rfl, S⟩

set_option maxRecDepth 100000 in
set_option maxHeartbeats 4000000 in
theorem it_MaxBy {M : Hp} {v0 : Value} {l0 : List Int} (h0 : SeqV Try.prog v0 M (RInt) l0){v1 : Value} {f1 : Int → Int → Bool} (h1 : PF2B Try.prog v1 M f1) :
    Pu Try.prog (.func (.func 153) #[] #[]) M [v0, v1] (fun r M' => r = .int .i64 (bV f1 l0)) := by
  refine Pu_enter Try.func153 rfl Try.ntmps153 rfl Try.call153 ?_
  intro a w M1 H hM1 S E
  replace h0 := h0.le hM1
  replace h1 := h1.le hM1
  replace S : St w M1 (mks [] :: _) := S.empty
  replace E : Env a 18 (([] : List Nat).map mk) _ := E
  refine WP_seq ?_
  refine WP_region ?_
  refine S_x (X_box (cs := #[v1]) E S rfl rfl (cells_one h1.1) ?_)
  clear E a S; rintro a w b_1 E S
  obtain ⟨M_2, hM_2, hb_1, S⟩ := S.freezeB
  replace h0 := h0.le hM_2
  replace h1 := h1.le hM_2
  refine S_v E rfl (R_assign E rfl) rfl ?_
  clear E a; intro a E
  refine WL_nil ?_
  refine T_n ?_
  refine WP_seq ?_
  refine WP_region ?_
  refine S_x (X_alloc (cs := #[.bool false]) E S rfl Try.zeroValue4 rfl ?_)
  clear E a S; rintro a w b_3 E S
  refine S_x0 (X_store E S rfl rfl (Try.sizeOf4 _) rfl ?_)
  clear E a S; rintro a w E S
  refine WL_nil ?_
  refine T_n ?_
  refine WP_seq ?_
  refine WP_region ?_
  refine S_x (X_alloc (cs := #[.int .i64 0]) E S rfl Try.zeroValue3 rfl ?_)
  clear E a S; rintro a w b_4 E S
  refine WL_nil ?_
  refine T_n ?_
  refine WP_seq ?_
  refine WP_seq ?_
  refine WP_region ?_
  refine S_v E rfl (R_move E rfl) rfl ?_
  clear E a; intro a E
  refine WL_nil ?_
  refine T_n ?_
  refine WP_block ?_
  replace S := S.front1
  replace S := S.front1
  replace E := E.keep (l' := [(3, .pointer (some ⟨b_1, 0, none⟩)), (5, .pointer (some ⟨b_3, 0, none⟩)), (6, .pointer (some ⟨b_4, 0, none⟩)), (8, v0)]) ⟨rfl, rfl, rfl, rfl, trivial⟩
  replace S := S.front1
  replace S := S.blk_bool (j := (([] : List Int)).isEmpty) (by (first | rfl | exact isE_app (by assumption) | exact isE_app2 (by assumption) | (simp; done) | (rw [List.isEmpty_append]; simp_all; done) | (simp [List.isEmpty_iff] at *; simp_all; done) | (rw [bV_app]; (first | (rw [if_pos]; left; simp_all; done) | (rw [if_pos]; right; (first | assumption | (simp only [ltb, gtb, kLt, kGt, decide_eq_true_eq]; assumption) | (simp only [cg, ltb, gtb, kLt, kGt]; simp_all; done))) | (rw [if_neg]; intro hz; rcases hz with hz | hz <;> simp_all; done))) | (simp_all; done)))
  replace S := S.front1
  replace S := S.blk_int (j := bV f1 (([] : List Int))) (by (first | rfl | exact isE_app (by assumption) | exact isE_app2 (by assumption) | (simp; done) | (rw [List.isEmpty_append]; simp_all; done) | (simp [List.isEmpty_iff] at *; simp_all; done) | (rw [bV_app]; (first | (rw [if_pos]; left; simp_all; done) | (rw [if_pos]; right; (first | assumption | (simp only [ltb, gtb, kLt, kGt, decide_eq_true_eq]; assumption) | (simp only [cg, ltb, gtb, kLt, kGt]; simp_all; done))) | (rw [if_neg]; intro hz; rcases hz with hz | hz <;> simp_all; done))) | (simp_all; done)))
  have S0 := S; clear S; have S := St.pack [blk b_4 (.cells #[.int .i64 (bV f1 (([] : List Int)))] 3), blk b_3 (.cells #[.bool ((([] : List Int)).isEmpty)] 4)] S0; clear S0
  refine WP_range (RV := RInt) (l := l0) (fun pre M c => c = bigs [blk b_4 (.cells #[.int .i64 (bV f1 (pre))] 3), blk b_3 (.cells #[.bool ((pre).isEmpty)] 4)]) (fun _ _ _ _ => False) E S rfl h0 (Hp.le.refl _) (fun _ _ _ h => by rw [h]; rfl) (by decide) (by rintro _ M M' c hM rfl; exact rfl) rfl ?_ ?_ ?_
  clear E S
  · rintro lb_6 rec_7 pre x _ a w M_5 _ G hM_5 hp_8 rfl rfl E S
    replace E : Env a 18 [] [(9, .int .i64 x), (3, .pointer (some ⟨b_1, 0, none⟩)), (5, .pointer (some ⟨b_3, 0, none⟩)), (6, .pointer (some ⟨b_4, 0, none⟩)), (8, v0)] := E
    replace S := S.swap.unpack2
    have hq0 := prefix_lt hp_8
    replace h0 := h0.le hM_5
    replace h1 := h1.le hM_5
    replace hb_1 := hM_5.2 _ _ hb_1
    refine WP_region ?_
    refine S_v E rfl (R_assign E rfl) rfl ?_
    clear E a; intro a E
    refine WL_nil ?_
    refine T_n ?_
    replace S := S.front2
    refine rb S ?_
    clear S; intro w S
    refine WP_block ?_
    refine WP_seq ?_
    refine WP_region ?_
    refine S_v E rfl (R_load E rfl (Try.isAgg4 _) (cell_blk (S.mem (.tail _ (.tail _ (.head _)))))) rfl ?_
    clear E a; intro a E
    refine WL_nil ?_
    refine T_n ?_
    refine WP_cond E rfl (fun hc_10 => ?_) (fun hc_10 => ?_)
    · refine WP_seq ?_
      refine WP_region ?_
      refine S_v E rfl (R_move E rfl) rfl ?_
      clear E a; intro a E
      replace S := S.front1
      refine S_x0 (X_store E S rfl rfl (Try.sizeOf3 _) rfl ?_)
      clear E a S; rintro a w E S
      refine WL_nil ?_
      refine T_n ?_
      refine WP_region ?_
      replace S := S.front2
      refine S_x0 (X_store E S rfl rfl (Try.sizeOf4 _) rfl ?_)
      clear E a S; rintro a w E S
      refine WL_nil ?_
      refine B_n ?_
      replace S := S.front1
      replace S := S.front1
      replace S := S.blk_bool (j := ((pre ++ [x])).isEmpty) (by (first | rfl | exact isE_app (by assumption) | exact isE_app2 (by assumption) | (simp; done) | (rw [List.isEmpty_append]; simp_all; done) | (simp [List.isEmpty_iff] at *; simp_all; done) | (rw [bV_app]; (first | (rw [if_pos]; left; simp_all; done) | (rw [if_pos]; right; (first | assumption | (simp only [ltb, gtb, kLt, kGt, decide_eq_true_eq]; assumption) | (simp only [cg, ltb, gtb, kLt, kGt]; simp_all; done))) | (rw [if_neg]; intro hz; rcases hz with hz | hz <;> simp_all; done))) | (simp_all; done)))
      replace S := S.front1
      replace S := S.blk_int (j := bV f1 ((pre ++ [x]))) (by (first | rfl | exact isE_app (by assumption) | exact isE_app2 (by assumption) | (simp; done) | (rw [List.isEmpty_append]; simp_all; done) | (simp [List.isEmpty_iff] at *; simp_all; done) | (rw [bV_app]; (first | (rw [if_pos]; left; simp_all; done) | (rw [if_pos]; right; (first | assumption | (simp only [ltb, gtb, kLt, kGt, decide_eq_true_eq]; assumption) | (simp only [cg, ltb, gtb, kLt, kGt]; simp_all; done))) | (rw [if_neg]; intro hz; rcases hz with hz | hz <;> simp_all; done))) | (simp_all; done)))
      have S0 := S; clear S; have S := (St.pack [blk b_4 (.cells #[.int .i64 (bV f1 ((pre ++ [x])))] 3), blk b_3 (.cells #[.bool (((pre ++ [x])).isEmpty)] 4)] S0).swap; clear S0
      exact ⟨M_5, _, (Hp.le.refl _), rfl, S⟩
    · refine WP_seq ?_
      refine WP_region ?_
      refine S_v E rfl (R_loadM E rfl Try.isAgg119 S.imm (cellM_box hb_1)) rfl ?_
      clear E a; intro a E
      refine S_v E rfl (R_move E rfl) rfl ?_
      clear E a; intro a E
      refine S_v E rfl (R_load E rfl (Try.isAgg3 _) (cell_blk (S.mem (.tail _ (.head _))))) rfl ?_
      clear E a; intro a E
      refine S_x (X_pu E S rfl rfl rfl (h1.2 x (bV f1 (pre))) (Hp.le.refl _) ?_)
      clear E a S; rintro a _ w M_11 hM_11 rfl S E
      replace h0 := h0.le hM_11
      replace h1 := h1.le hM_11
      replace hb_1 := hM_11.2 _ _ hb_1
      refine WL_nil ?_
      refine T_n ?_
      refine WP_cond E rfl (fun hc_12 => ?_) (fun hc_12 => ?_)
      · refine WP_region ?_
        refine S_v E rfl (R_move E rfl) rfl ?_
        clear E a; intro a E
        replace S := S.front1
        refine S_x0 (X_store E S rfl rfl (Try.sizeOf3 _) rfl ?_)
        clear E a S; rintro a w E S
        refine WL_nil ?_
        refine B_n ?_
        replace S := S.front2
        replace S := S.front1
        replace S := S.front1
        replace S := S.blk_bool (j := ((pre ++ [x])).isEmpty) (by (first | rfl | exact isE_app (by assumption) | exact isE_app2 (by assumption) | (simp; done) | (rw [List.isEmpty_append]; simp_all; done) | (simp [List.isEmpty_iff] at *; simp_all; done) | (rw [bV_app]; (first | (rw [if_pos]; left; simp_all; done) | (rw [if_pos]; right; (first | assumption | (simp only [ltb, gtb, kLt, kGt, decide_eq_true_eq]; assumption) | (simp only [cg, ltb, gtb, kLt, kGt]; simp_all; done))) | (rw [if_neg]; intro hz; rcases hz with hz | hz <;> simp_all; done))) | (simp_all; done)))
        replace S := S.front1
        replace S := S.blk_int (j := bV f1 ((pre ++ [x]))) (by (first | rfl | exact isE_app (by assumption) | exact isE_app2 (by assumption) | (simp; done) | (rw [List.isEmpty_append]; simp_all; done) | (simp [List.isEmpty_iff] at *; simp_all; done) | (rw [bV_app]; (first | (rw [if_pos]; left; simp_all; done) | (rw [if_pos]; right; (first | assumption | (simp only [ltb, gtb, kLt, kGt, decide_eq_true_eq]; assumption) | (simp only [cg, ltb, gtb, kLt, kGt]; simp_all; done))) | (rw [if_neg]; intro hz; rcases hz with hz | hz <;> simp_all; done))) | (simp_all; done)))
        have S0 := S; clear S; have S := (St.pack [blk b_4 (.cells #[.int .i64 (bV f1 ((pre ++ [x])))] 3), blk b_3 (.cells #[.bool (((pre ++ [x])).isEmpty)] 4)] S0).swap; clear S0
        exact ⟨M_11, _, hM_11, rfl, S⟩
      · refine WP_skip ?_
        refine B_n ?_
        replace S := S.front2
        replace S := S.front2
        replace S := S.front1
        replace S := S.blk_bool (j := ((pre ++ [x])).isEmpty) (by (first | rfl | exact isE_app (by assumption) | exact isE_app2 (by assumption) | (simp; done) | (rw [List.isEmpty_append]; simp_all; done) | (simp [List.isEmpty_iff] at *; simp_all; done) | (rw [bV_app]; (first | (rw [if_pos]; left; simp_all; done) | (rw [if_pos]; right; (first | assumption | (simp only [ltb, gtb, kLt, kGt, decide_eq_true_eq]; assumption) | (simp only [cg, ltb, gtb, kLt, kGt]; simp_all; done))) | (rw [if_neg]; intro hz; rcases hz with hz | hz <;> simp_all; done))) | (simp_all; done)))
        replace S := S.front1
        replace S := S.blk_int (j := bV f1 ((pre ++ [x]))) (by (first | rfl | exact isE_app (by assumption) | exact isE_app2 (by assumption) | (simp; done) | (rw [List.isEmpty_append]; simp_all; done) | (simp [List.isEmpty_iff] at *; simp_all; done) | (rw [bV_app]; (first | (rw [if_pos]; left; simp_all; done) | (rw [if_pos]; right; (first | assumption | (simp only [ltb, gtb, kLt, kGt, decide_eq_true_eq]; assumption) | (simp only [cg, ltb, gtb, kLt, kGt]; simp_all; done))) | (rw [if_neg]; intro hz; rcases hz with hz | hz <;> simp_all; done))) | (simp_all; done)))
        have S0 := S; clear S; have S := (St.pack [blk b_4 (.cells #[.int .i64 (bV f1 ((pre ++ [x])))] 3), blk b_3 (.cells #[.bool (((pre ++ [x])).isEmpty)] 4)] S0).swap; clear S0
        exact ⟨M_11, _, hM_11, rfl, S⟩
  · rintro a w M_13 _ D_14 hM_13 rfl S E
    replace S := S.unpack2
    replace h0 := h0.le hM_13
    replace h1 := h1.le hM_13
    replace hb_1 := hM_13.2 _ _ hb_1
    refine B_n ?_
    refine T_n ?_
    refine WP_seq ?_
    refine WP_region ?_
    refine S_v E rfl (R_load E rfl (Try.isAgg3 _) (cell_blk (S.mem (.head _)))) rfl ?_
    clear E a; intro a E
    refine S_v E rfl (R_assign E rfl) rfl ?_
    clear E a; intro a E
    refine WL_nil ?_
    refine T_n ?_
    refine WP_ret ?_
    replace S := S.drop
    replace S := S.drop
    exact F_retM1 E S Try.results153 rfl (fun w S => ⟨_, rfl, M_13, (hM_2.trans hM_13), (congrArg (Value.int .i64) (by ((try clear S); (try clear E); first | assumption | omega | rfl | (simp; done) | (simp_all; done) | (simp [List.take_add_one, *]; done) | grind [List.take_add_one]))), S⟩)
  · rintro _ _ _ _ _ _ _ _ _ hX; exact hX.elim

set_option maxRecDepth 100000 in
set_option maxHeartbeats 4000000 in
theorem impl_MaxBySeq1 {M : Hp} {kk9 kn9 : Int} (gk9 : -9223372036854775808 ≤ kn9 ∧ kn9 ≤ 9223372036854775807) {bx9 : Nat} (hbx9 : M bx9 = some (.cells #[.int .i64 kk9, .int .i64 kn9] 24)) {x0 x1 : Int} :
    Pu Try.prog (.func (.func 154) #[] #[.pointer (some ⟨bx9, 0, none⟩)]) M [.int .i64 x0, .int .i64 x1] (fun r M' => r = .bool (kGt kk9 kn9 x0 x1)) := by
  refine Pu_enter Try.func154 rfl Try.ntmps154 rfl Try.call154 ?_
  intro a w M1 H hM1 S E
  replace hbx9 := hM1.2 _ _ hbx9
  refine WP_seq ?_
  refine WP_region ?_
  refine S_v E rfl (R_assign E rfl) rfl ?_
  clear E a; intro a E
  refine WL_nil ?_
  refine T_n ?_
  refine WP_seq ?_
  have hbx9k0 := hbx9
  replace S := S.mono_heap (w' := World.drew _) rfl
  refine WP_drawn (C := fun x w => agree M1 w) (bf := (fun i => [])) [0, 1, 3, 4, 6, 7] [0, 1, 3, 4, 2, 5, 6, 7] Try.mixed (by kernel_rfl) (fun x hq => S.imm) ?_
  refine D_v E rfl rfl rfl (fun w hC => (R_loadGM E rfl (Try.isAgg24 _) (Try.sizeOf24 _) hC hbx9k0)) ?_
  clear E a; intro a E
  refine D_v E rfl rfl rfl (fun w hC => (R_move E rfl)) ?_
  clear E a; intro a E
  refine D_v E rfl rfl rfl (fun w hC => (R_loadGM E rfl (Try.isAgg24 _) (Try.sizeOf24 _) hC hbx9k0)) ?_
  clear E a; intro a E
  refine D_v E rfl rfl rfl (fun w hC => (R_move E rfl)) ?_
  clear E a; intro a E
  refine D_x rfl rfl rfl (X_pu E S rfl rfl rfl (Key_of_d (by omega)) (Hp.le.refl _) ?_)
  clear E a S; rintro a _ w M_1 hM_1 rfl S E
  replace hbx9 := hM_1.2 _ _ hbx9
  refine ⟨fun x hq hb => (agree_le hM_1 S.imm), ?_⟩
  refine D_x rfl rfl rfl (X_pu E S rfl rfl rfl (Key_of_d (by omega)) (Hp.le.refl _) ?_)
  clear E a S; rintro a _ w M_2 hM_2 rfl S E
  replace hbx9 := hM_2.2 _ _ hbx9
  refine ⟨fun x hq hb => (agree_le (hM_1.trans hM_2) S.imm), ?_⟩
  refine D_v E rfl rfl rfl (fun w hC => (R_gtr E rfl rfl)) ?_
  clear E a; intro a E
  refine D_v E rfl rfl rfl (fun w hC => (R_assign E rfl)) ?_
  clear E a; intro a E
  refine D_end (NoP_n ?_)
  refine T_n ?_
  refine WP_ret ?_
  exact F_ret1 E Try.results154 rfl ⟨_, rfl, M_2, (hM_1.trans hM_2), (congrArg Value.bool (by ((try clear S); (try clear E); first | assumption | omega | rfl | (simp; done) | (simp_all; done) | (simp [List.take_add_one, *]; done) | grind [List.take_add_one]))), S⟩

set_option maxRecDepth 100000 in
set_option maxHeartbeats 4000000 in
theorem impl_MaxBySeq {M : Hp} {v0 : Value} {l0 : List Int} (h0 : RdI M v0 l0){kk1 kn1 : Int} (gk1 : -9223372036854775808 ≤ kn1 ∧ kn1 ≤ 9223372036854775807) :
    Pu Try.prog (.func (.func 28) #[] #[]) M [v0, .agg #[.int .i64 kk1, .int .i64 kn1]] (fun r M' => r = .int .i64 (bV (kGt kk1 kn1) l0)) := by
  refine Pu_enter Try.func28 rfl Try.ntmps28 rfl Try.call28 ?_
  intro a w M1 H hM1 S E
  replace h0 := h0.le hM1
  have b0 := h0.bound
  refine WP_seq ?_
  refine WP_region ?_
  refine S_x (X_box (cs := #[.int .i64 kk1, .int .i64 kn1]) E S rfl rfl rfl ?_)
  clear E a S; rintro a w b_1 E S
  obtain ⟨M_2, hM_2, hb_1, S⟩ := S.freezeB
  replace h0 := h0.le hM_2
  refine S_v E rfl (R_assign E rfl) rfl ?_
  clear E a; intro a E
  refine WL_nil ?_
  refine T_n ?_
  refine WP_seq ?_
  refine WP_region ?_
  refine S_v E rfl (R_move E rfl) rfl ?_
  clear E a; intro a E
  refine S_x (X_pu E S rfl rfl rfl (slices_Values h0) (Hp.le.refl _) ?_)
  clear E a S; rintro a v_4 w M_3 hM_3 hv_4 S E
  replace h0 := h0.le hM_3
  replace hb_1 := hM_3.2 _ _ hb_1
  refine S_v E rfl (R_makeFunc E rfl rfl) rfl ?_
  clear E a; intro a E
  refine S_x (X_pu E S rfl rfl rfl (it_MaxBy hv_4 ⟨rfl, fun zx0 zx1 => impl_MaxBySeq1 (x0 := zx0) (x1 := zx1) (by omega) hb_1⟩) (Hp.le.refl _) ?_)
  clear E a S; rintro a _ w M_5 hM_5 rfl S E
  replace h0 := h0.le hM_5
  replace hb_1 := hM_5.2 _ _ hb_1
  replace hv_4 := hv_4.le hM_5
  refine S_v E rfl (R_assign E rfl) rfl ?_
  clear E a; intro a E
  refine WL_nil ?_
  refine T_n ?_
  refine WP_ret ?_
  exact F_ret1 E Try.results28 rfl ⟨_, rfl, M_5, (hM_2.trans (hM_3.trans hM_5)), rfl, S⟩

set_option maxRecDepth 100000 in
set_option maxHeartbeats 4000000 in
theorem lo_Clamp {M : Hp} {x0 x1 x2 : Int} :
    Pu Try.prog (.func (.func 155) #[] #[]) M [.int .i64 x0, .int .i64 x1, .int .i64 x2] (fun r M' => r = .int .i64 (if x0 < x1 then x1 else if x0 > x2 then x2 else x0)) := by
  refine Pu_enter Try.func155 rfl Try.ntmps155 rfl Try.call155 ?_
  intro a w M1 H hM1 S E
  refine WP_seq ?_
  refine WP_region ?_
  refine S_v E rfl (R_assign E rfl) rfl ?_
  clear E a; intro a E
  refine WL_nil ?_
  refine T_n ?_
  refine WP_seq ?_
  refine WP_seq ?_
  refine WP_region ?_
  refine S_v E rfl (R_move E rfl) rfl ?_
  clear E a; intro a E
  refine S_v E rfl (R_move E rfl) rfl ?_
  clear E a; intro a E
  refine S_v E rfl (R_lss E rfl rfl) rfl ?_
  clear E a; intro a E
  refine WL_nil ?_
  refine T_n ?_
  refine WP_cond E rfl (fun hc_1 => ?_) (fun hc_1 => ?_)
  · replace hc_1 := of_decide_eq_true hc_1
    refine WP_seq ?_
    refine WP_region ?_
    refine S_v E rfl (R_move E rfl) rfl ?_
    clear E a; intro a E
    refine S_v E rfl (R_assign E rfl) rfl ?_
    clear E a; intro a E
    refine WL_nil ?_
    refine T_n ?_
    refine WP_ret ?_
    refine T_r ?_
    exact F_ret1 E Try.results155 rfl ⟨_, rfl, M1, (Hp.le.refl _), (congrArg (Value.int .i64) (by (first | (rw [if_pos (by assumption)]) | (rw [if_neg (by assumption), if_pos (by assumption)]) | (rw [if_neg (by assumption), if_neg (by assumption)])))), S⟩
  · replace hc_1 := of_decide_eq_false hc_1
    refine WP_seq ?_
    refine WP_region ?_
    refine S_v E rfl (R_move E rfl) rfl ?_
    clear E a; intro a E
    refine S_v E rfl (R_move E rfl) rfl ?_
    clear E a; intro a E
    refine S_v E rfl (R_gtr E rfl rfl) rfl ?_
    clear E a; intro a E
    refine WL_nil ?_
    refine T_n ?_
    refine WP_cond E rfl (fun hc_2 => ?_) (fun hc_2 => ?_)
    · replace hc_2 := of_decide_eq_true hc_2
      refine WP_seq ?_
      refine WP_region ?_
      refine S_v E rfl (R_move E rfl) rfl ?_
      clear E a; intro a E
      refine S_v E rfl (R_assign E rfl) rfl ?_
      clear E a; intro a E
      refine WL_nil ?_
      refine T_n ?_
      refine WP_ret ?_
      refine T_r ?_
      exact F_ret1 E Try.results155 rfl ⟨_, rfl, M1, (Hp.le.refl _), (congrArg (Value.int .i64) (by (first | (rw [if_pos (by assumption)]) | (rw [if_neg (by assumption), if_pos (by assumption)]) | (rw [if_neg (by assumption), if_neg (by assumption)])))), S⟩
    · replace hc_2 := of_decide_eq_false hc_2
      refine WP_skip ?_
      refine T_n ?_
      refine WP_seq ?_
      refine WP_region ?_
      refine S_v E rfl (R_move E rfl) rfl ?_
      clear E a; intro a E
      refine S_v E rfl (R_assign E rfl) rfl ?_
      clear E a; intro a E
      refine WL_nil ?_
      refine T_n ?_
      refine WP_ret ?_
      exact F_ret1 E Try.results155 rfl ⟨_, rfl, M1, (Hp.le.refl _), (congrArg (Value.int .i64) (by (first | (rw [if_pos (by assumption)]) | (rw [if_neg (by assumption), if_pos (by assumption)]) | (rw [if_neg (by assumption), if_neg (by assumption)])))), S⟩

set_option maxRecDepth 100000 in
set_option maxHeartbeats 4000000 in
theorem impl_Clamp {M : Hp} {x0 x1 x2 : Int} :
    Pu Try.prog (.func (.func 29) #[] #[]) M [.int .i64 x0, .int .i64 x1, .int .i64 x2] (fun r M' => r = .int .i64 (if x0 < x1 then x1 else if x0 > x2 then x2 else x0)) := by
  refine Pu_enter Try.func29 rfl Try.ntmps29 rfl Try.call29 ?_
  intro a w M1 H hM1 S E
  refine WP_seq ?_
  refine WP_region ?_
  refine S_v E rfl (R_assign E rfl) rfl ?_
  clear E a; intro a E
  refine WL_nil ?_
  refine T_n ?_
  refine WP_seq ?_
  refine WP_region ?_
  refine S_v E rfl (R_move E rfl) rfl ?_
  clear E a; intro a E
  refine S_v E rfl (R_move E rfl) rfl ?_
  clear E a; intro a E
  refine S_v E rfl (R_move E rfl) rfl ?_
  clear E a; intro a E
  refine S_x (X_pu E S rfl rfl rfl (lo_Clamp ) (Hp.le.refl _) ?_)
  clear E a S; rintro a _ w M_1 hM_1 rfl S E
  refine S_v E rfl (R_assign E rfl) rfl ?_
  clear E a; intro a E
  refine WL_nil ?_
  refine T_n ?_
  refine WP_ret ?_
  exact F_ret1 E Try.results29 rfl ⟨_, rfl, M_1, hM_1, rfl, S⟩

set_option maxRecDepth 100000 in
set_option maxHeartbeats 4000000 in
theorem laws_FnExtremes {M : Hp} {v0 : Value} {l0 : List Int} (h0 : RdI M v0 l0){kk1 kn1 : Int} (gk1 : -9223372036854775808 ≤ kn1 ∧ kn1 ≤ 9223372036854775807) (hr0 : (∀ x ∈ l0, -9223372036854775808 ≤ x ∧ x ≤ 9223372036854775807)) :
    PuC Try.prog 3 M [v0, .agg #[.int .i64 kk1, .int .i64 kn1]] (fun r M' => r = .bool true) := by
  refine PuC_enter Try.func3 rfl Try.ntmps3 rfl ?_
  intro a w M1 H hM1 S E
  replace h0 := h0.le hM1
  have b0 := h0.bound
  refine WP_seq ?_
  refine WP_region ?_
  refine S_x (X_box (cs := #[.int .i64 kk1, .int .i64 kn1]) E S rfl rfl rfl ?_)
  clear E a S; rintro a w b_1 E S
  obtain ⟨M_2, hM_2, hb_1, S⟩ := S.freezeB
  replace h0 := h0.le hM_2
  refine S_v E rfl (R_assign E rfl) rfl ?_
  clear E a; intro a E
  refine WL_nil ?_
  refine T_n ?_
  refine WP_seq ?_
  refine WP_seq ?_
  refine WP_region ?_
  refine S_v E rfl (R_move E rfl) rfl ?_
  clear E a; intro a E
  refine S_v E rfl (R_lenV E rfl T22 h0.len) rfl ?_
  clear E a; intro a E
  refine S_v E rfl (R_gtr E rfl rfl) rfl ?_
  clear E a; intro a E
  refine WL_nil ?_
  refine T_n ?_
  refine WP_cond E rfl (fun hc_3 => ?_) (fun hc_3 => ?_)
  · replace hc_3 := of_decide_eq_true hc_3
    refine WP_seq ?_
    refine WP_region ?_
    refine S_v E rfl (R_assign E rfl) rfl ?_
    clear E a; intro a E
    refine WL_nil ?_
    refine T_n ?_
    refine WP_ret ?_
    refine T_r ?_
    exact F_ret1 E Try.results3 rfl ⟨_, rfl, M_2, hM_2, rfl, S⟩
  · replace hc_3 := of_decide_eq_false hc_3
    refine WP_skip ?_
    refine T_n ?_
    refine WP_seq ?_
    refine WP_seq ?_
    refine WP_region ?_
    refine S_x (X_buildI (ys := [2, 1]) E S rfl T22 rfl rfl rfl ?_)
    clear E a S; rintro a w v_4 E S
    have S0 := S; clear S
    obtain ⟨M_5, hM_5, hz_6, S⟩ := S0.freezeI (by (first | omega | (simp; omega) | (simp; done) | (simp_all; omega) | grind))
    clear S0
    replace h0 := h0.le hM_5
    replace hb_1 := hM_5.2 _ _ hb_1
    refine S_x (X_pu E S rfl rfl rfl (impl_MinIndex hz_6) (Hp.le.refl _) ?_)
    clear E a S; rintro a _ w M_7 hM_7 rfl S E
    replace h0 := h0.le hM_7
    replace hb_1 := hM_7.2 _ _ hb_1
    replace hz_6 := hz_6.le hM_7
    refine S_v E rfl (R_move E rfl) rfl ?_
    clear E a; intro a E
    refine S_v E rfl (R_extract E rfl rfl) rfl ?_
    clear E a; intro a E
    refine S_v E rfl (R_extract E rfl rfl) rfl ?_
    clear E a; intro a E
    refine S_v E rfl (R_assign E rfl) rfl ?_
    clear E a; intro a E
    refine S_v E rfl (R_assign E rfl) rfl ?_
    clear E a; intro a E
    refine WL_nil ?_
    refine T_n ?_
    refine WP_seq ?_
    refine WP_region ?_
    refine S_v E rfl (R_move E rfl) rfl ?_
    clear E a; intro a E
    refine S_v E rfl (R_neq E rfl rfl) rfl ?_
    clear E a; intro a E
    refine S_v E rfl (R_move E rfl) rfl ?_
    clear E a; intro a E
    have hc_8 : (decide (bV ltb [2, 1] ≠ 1)) = false := by (first | decide | rfl | simp)
    replace E := E.val (t := 34) rfl hc_8
    replace E := E.val (t := 35) rfl hc_8
    refine WL_guard_yes E rfl rfl ?_
    refine S_v E rfl (R_move E rfl) rfl ?_
    clear E a; intro a E
    refine WL_guard_yes E rfl rfl ?_
    refine S_v E rfl (R_neq E rfl rfl) rfl ?_
    clear E a; intro a E
    refine S_v E rfl (R_pickF E rfl rfl) rfl ?_
    clear E a; intro a E
    refine WL_nil ?_
    refine T_n ?_
    have hc_9 : (decide (bJ ltb [2, 1] ≠ 1)) = false := by (first | decide | rfl | simp)
    refine WP_condF E rfl hc_9 ?_
    refine WP_skip ?_
    refine T_n ?_
    refine WP_seq ?_
    refine WP_seq ?_
    refine WP_region ?_
    refine S_v E rfl (R_move E rfl) rfl ?_
    clear E a; intro a E
    refine S_x (X_buildM (R := RSl 1 RInt) (vs := [v0]) (xs := [l0]) (RSl_mono RInt_mono) E S rfl T98 rfl rfl rfl (by intro u hu; simp only [List.mem_cons, List.not_mem_nil, or_false] at hu; rcases hu with rfl <;> first | exact RdI.one h0 | rfl) rfl (rowsC (R := RSl 1 RInt) (RdI.row h0) rowsN) ?_)
    clear E a S; rintro a v_10 w M_11 hM_11 hv_10 S E
    replace hv_10 : RdII M_11 v_10 [l0] := hv_10
    replace h0 := h0.le hM_11
    replace hb_1 := hM_11.2 _ _ hb_1
    replace hz_6 := hz_6.le hM_11
    refine S_x (X_pu E S rfl rfl rfl (laws_few hv_10) (Hp.le.refl _) ?_)
    clear E a S; rintro a _ w M_12 hM_12 rfl S E
    replace h0 := h0.le hM_12
    replace hb_1 := hM_12.2 _ _ hb_1
    replace hz_6 := hz_6.le hM_12
    replace hv_10 := hv_10.le hM_12
    refine S_v E rfl (R_not E rfl) rfl ?_
    clear E a; intro a E
    refine S_v E rfl (R_move E rfl) rfl ?_
    clear E a; intro a E
    refine split_bool (!(decide (∀ x ∈ [l0], x.length ≤ 300))) (fun hc_13 => ?_) (fun hc_13 => ?_)
    · replace E := E.val (t := 42) rfl hc_13
      replace E := E.val (t := 43) rfl hc_13
      refine WL_guard_no E rfl rfl rfl rfl fun a E => ?_
      refine WL_guard_no E rfl rfl rfl rfl fun a E => ?_
      refine WL_guard_no E rfl rfl rfl rfl fun a E => ?_
      refine S_v E rfl (R_pickT E rfl rfl) rfl ?_
      clear E a; intro a E
      refine S_v E rfl (R_move E rfl) rfl ?_
      clear E a; intro a E
      refine WL_guard_no E rfl rfl rfl rfl fun a E => ?_
      refine WL_guard_no E rfl rfl rfl rfl fun a E => ?_
      refine WL_guard_no E rfl rfl rfl rfl fun a E => ?_
      refine S_v E rfl (R_pickT E rfl rfl) rfl ?_
      clear E a; intro a E
      refine S_v E rfl (R_move E rfl) rfl ?_
      clear E a; intro a E
      refine WL_guard_no E rfl rfl rfl rfl fun a E => ?_
      refine WL_guard_no E rfl rfl rfl rfl fun a E => ?_
      refine WL_guard_no E rfl rfl rfl rfl fun a E => ?_
      refine S_v E rfl (R_pickT E rfl rfl) rfl ?_
      clear E a; intro a E
      refine WL_nil ?_
      refine T_n ?_
      refine WP_condT E rfl rfl ?_
      refine WP_seq ?_
      refine WP_region ?_
      refine S_v E rfl (R_assign E rfl) rfl ?_
      clear E a; intro a E
      refine WL_nil ?_
      refine T_n ?_
      refine WP_ret ?_
      refine T_r ?_
      exact F_ret1 E Try.results3 rfl ⟨_, rfl, M_12, (hM_2.trans (hM_5.trans (hM_7.trans (hM_11.trans hM_12)))), rfl, S⟩
    · replace E := E.val (t := 42) rfl hc_13
      replace E := E.val (t := 43) rfl hc_13
      refine WL_guard_yes E rfl rfl ?_
      refine S_v E rfl (R_loadGM E rfl (Try.isAgg24 _) (Try.sizeOf24 _) S.imm hb_1) rfl ?_
      clear E a; intro a E
      refine WL_guard_yes E rfl rfl ?_
      refine S_x (X_pu E S rfl rfl rfl (laws_just (by omega)) (Hp.le.refl _) ?_)
      clear E a S; rintro a _ w M_14 hM_14 rfl S E
      replace h0 := h0.le hM_14
      replace hb_1 := hM_14.2 _ _ hb_1
      replace hz_6 := hz_6.le hM_14
      replace hv_10 := hv_10.le hM_14
      refine WL_guard_yes E rfl rfl ?_
      refine S_v E rfl (R_not E rfl) rfl ?_
      clear E a; intro a E
      refine S_v E rfl (R_pickF E rfl rfl) rfl ?_
      clear E a; intro a E
      refine S_v E rfl (R_move E rfl) rfl ?_
      clear E a; intro a E
      refine split_bool (!(decide (-1099511627776 < kn1 ∧ kn1 < 1099511627776))) (fun hc_15 => ?_) (fun hc_15 => ?_)
      · replace E := E.val (t := 46) rfl hc_15
        replace E := E.val (t := 47) rfl hc_15
        replace E := E.val (t := 48) rfl hc_15
        refine WL_guard_no E rfl rfl rfl rfl fun a E => ?_
        refine WL_guard_no E rfl rfl rfl rfl fun a E => ?_
        refine WL_guard_no E rfl rfl rfl rfl fun a E => ?_
        refine S_v E rfl (R_pickT E rfl rfl) rfl ?_
        clear E a; intro a E
        refine S_v E rfl (R_move E rfl) rfl ?_
        clear E a; intro a E
        refine WL_guard_no E rfl rfl rfl rfl fun a E => ?_
        refine WL_guard_no E rfl rfl rfl rfl fun a E => ?_
        refine WL_guard_no E rfl rfl rfl rfl fun a E => ?_
        refine S_v E rfl (R_pickT E rfl rfl) rfl ?_
        clear E a; intro a E
        refine WL_nil ?_
        refine T_n ?_
        refine WP_condT E rfl rfl ?_
        refine WP_seq ?_
        refine WP_region ?_
        refine S_v E rfl (R_assign E rfl) rfl ?_
        clear E a; intro a E
        refine WL_nil ?_
        refine T_n ?_
        refine WP_ret ?_
        refine T_r ?_
        exact F_ret1 E Try.results3 rfl ⟨_, rfl, M_14, (hM_2.trans (hM_5.trans (hM_7.trans (hM_11.trans (hM_12.trans hM_14))))), rfl, S⟩
      · replace E := E.val (t := 46) rfl hc_15
        replace E := E.val (t := 47) rfl hc_15
        replace E := E.val (t := 48) rfl hc_15
        refine WL_guard_yes E rfl rfl ?_
        refine S_v E rfl (R_move E rfl) rfl ?_
        clear E a; intro a E
        refine WL_guard_yes E rfl rfl ?_
        refine S_v E rfl (R_lenV E rfl T22 h0.len) rfl ?_
        clear E a; intro a E
        refine WL_guard_yes E rfl rfl ?_
        refine S_v E rfl (R_eql E rfl rfl) rfl ?_
        clear E a; intro a E
        refine S_v E rfl (R_pickF E rfl rfl) rfl ?_
        clear E a; intro a E
        refine S_v E rfl (R_move E rfl) rfl ?_
        clear E a; intro a E
        refine split_bool (decide ((((l0).length : Nat) : Int) = 0)) (fun hc_16 => ?_) (fun hc_16 => ?_)
        · replace E := E.val (t := 51) rfl hc_16
          replace E := E.val (t := 52) rfl hc_16
          replace E := E.val (t := 53) rfl hc_16
          replace hc_16 := of_decide_eq_true hc_16
          refine WL_guard_no E rfl rfl rfl rfl fun a E => ?_
          refine WL_guard_no E rfl rfl rfl rfl fun a E => ?_
          refine WL_guard_no E rfl rfl rfl rfl fun a E => ?_
          refine S_v E rfl (R_pickT E rfl rfl) rfl ?_
          clear E a; intro a E
          refine WL_nil ?_
          refine T_n ?_
          refine WP_condT E rfl rfl ?_
          refine WP_seq ?_
          refine WP_region ?_
          refine S_v E rfl (R_assign E rfl) rfl ?_
          clear E a; intro a E
          refine WL_nil ?_
          refine T_n ?_
          refine WP_ret ?_
          refine T_r ?_
          exact F_ret1 E Try.results3 rfl ⟨_, rfl, M_14, (hM_2.trans (hM_5.trans (hM_7.trans (hM_11.trans (hM_12.trans hM_14))))), rfl, S⟩
        · replace E := E.val (t := 51) rfl hc_16
          replace E := E.val (t := 52) rfl hc_16
          replace E := E.val (t := 53) rfl hc_16
          replace hc_16 := of_decide_eq_false hc_16
          refine WL_guard_yes E rfl rfl ?_
          refine S_v E rfl (R_fieldAddr E rfl (FA24_0 _)) rfl ?_
          clear E a; intro a E
          refine WL_guard_yes E rfl rfl ?_
          refine S_v E rfl (R_loadM E rfl Try.isAgg3 S.imm (cellM_boxo hb_1 rfl)) rfl ?_
          clear E a; intro a E
          refine WL_guard_yes E rfl rfl ?_
          refine S_v E rfl (R_eql E rfl rfl) rfl ?_
          clear E a; intro a E
          refine S_v E rfl (R_pickF E rfl rfl) rfl ?_
          clear E a; intro a E
          refine WL_nil ?_
          refine T_n ?_
          refine WP_cond E rfl (fun hc_17 => ?_) (fun hc_17 => ?_)
          · replace hc_17 := of_decide_eq_true hc_17
            refine WP_seq ?_
            refine WP_region ?_
            refine S_v E rfl (R_assign E rfl) rfl ?_
            clear E a; intro a E
            refine WL_nil ?_
            refine T_n ?_
            refine WP_ret ?_
            refine T_r ?_
            exact F_ret1 E Try.results3 rfl ⟨_, rfl, M_14, (hM_2.trans (hM_5.trans (hM_7.trans (hM_11.trans (hM_12.trans hM_14))))), rfl, S⟩
          · replace hc_17 := of_decide_eq_false hc_17
            have hkj : -1099511627776 < kn1 ∧ kn1 < 1099511627776 := (by simp_all)
            have hln : ¬ (l0.length : Int) = 0 := (by assumption)
            refine WP_skip ?_
            refine T_n ?_
            refine WP_seq ?_
            refine WP_region ?_
            refine S_v E rfl (R_assign E rfl) rfl ?_
            clear E a; intro a E
            refine S_v E rfl (R_assign E rfl) rfl ?_
            clear E a; intro a E
            refine S_v E rfl (R_assign E rfl) rfl ?_
            clear E a; intro a E
            refine S_v E rfl (R_assign E rfl) rfl ?_
            clear E a; intro a E
            refine WL_nil ?_
            refine T_n ?_
            refine WP_seq ?_
            refine WP_seq ?_
            refine WP_region ?_
            refine S_v E rfl (R_move E rfl) rfl ?_
            clear E a; intro a E
            refine S_v E rfl (R_lenV E rfl T22 h0.len) rfl ?_
            clear E a; intro a E
            refine S_v E rfl (R_move E rfl) rfl ?_
            clear E a; intro a E
            refine WL_nil ?_
            refine T_n ?_
            refine WP_block ?_
            refine WP_loop (γ := Nat) (fun (k : Nat) a w => ∃ (M_18 : Hp), Hp.le M_14 M_18 ∧ St w M_18 (H) ∧ Env a 266 [] [(0, v0), (3, .pointer (some ⟨b_1, 0, none⟩)), (7, .int .i64 ((bI ltb (l0.take k) : Nat) : Int)), (8, .int .i64 ((bI gtb (l0.take k) : Nat) : Int)), (9, .int .i64 ((bI (kLt kk1 kn1) (l0.take k) : Nat) : Int)), (10, .int .i64 ((bI (kGt kk1 kn1) (l0.take k) : Nat) : Int)), (58, v0), (59, .int .i64 (((l0).length : Nat) : Int)), (60, .int .i64 ((k : Nat) : Int))] ∧ (k ≤ (l0).length)) (fun k => ((l0).length) - k) 0 ⟨M_14, Hp.le.refl _, S, E.keep ⟨rfl, rfl, look_nat (i := 0) rfl (by (simp [bI, bSt])), look_nat (i := 0) rfl (by (simp [bI, bSt])), look_nat (i := 0) rfl (by (simp [bI, bSt])), look_nat (i := 0) rfl (by (simp [bI, bSt])), rfl, rfl, rfl, trivial⟩, by ((try clear S); (try clear E); first | assumption | omega | rfl | (simp; done) | (simp_all; done) | (simp [List.take_add_one, *]; done) | grind [List.take_add_one])⟩ ?_
            try clear E
            try clear S
            try clear a
            try clear w
            rintro k a w ⟨M_18, hM_18, S, E, hL0_0⟩
            replace h0 := h0.le hM_18
            replace hb_1 := hM_18.2 _ _ hb_1
            replace hz_6 := hz_6.le hM_18
            replace hv_10 := hv_10.le hM_18
            refine WP_seq ?_
            refine WP_region ?_
            refine S_v E rfl (R_lss E rfl rfl) rfl ?_
            clear E a; intro a E
            refine WL_nil ?_
            refine T_n ?_
            refine WP_seq ?_
            refine WP_cond E rfl (fun hc_19 => ?_) (fun hc_19 => ?_)
            · replace hc_19 := of_decide_eq_true hc_19
              have hq7 := (bI_lt ltb (l := l0) (k := k) (by omega)).1
              have hq8 := (bI_lt gtb (l := l0) (k := k) (by omega)).1
              have hq9 := (bI_lt (kLt kk1 kn1) (l := l0) (k := k) (by omega)).1
              have hq10 := (bI_lt (kGt kk1 kn1) (l := l0) (k := k) (by omega)).1
              refine WP_skip ?_
              refine T_n ?_
              refine WP_seq ?_
              refine WP_block ?_
              refine WP_seq ?_
              refine WP_region ?_
              refine S_v E rfl (R_move E rfl) rfl ?_
              clear E a; intro a E
              obtain ⟨x_20, hx_20⟩ : ∃ x, (l0)[k]? = some x := ⟨_, List.getElem?_eq_getElem (by first | omega | (simp; done) | (simp; omega) | (simp_all; omega))⟩
              obtain ⟨p_21, hp_21, qp_21⟩ := h0.at hx_20
              refine S_v E rfl (R_idx E rfl rfl T22 hp_21 rfl) rfl ?_
              clear E a; intro a E
              refine S_v E rfl (R_loadM E rfl Try.isAgg3 S.imm qp_21) rfl ?_
              clear E a; intro a E
              refine S_v E rfl (R_assign E rfl) rfl ?_
              clear E a; intro a E
              refine S_v E rfl (R_assign E rfl) rfl ?_
              clear E a; intro a E
              refine WL_nil ?_
              refine T_n ?_
              refine WP_seq ?_
              refine WP_seq ?_
              refine WP_region ?_
              refine S_v E rfl (R_move E rfl) rfl ?_
              clear E a; intro a E
              refine S_v E rfl (R_move E rfl) rfl ?_
              clear E a; intro a E
              refine S_v E rfl (R_move E rfl) rfl ?_
              clear E a; intro a E
              obtain ⟨x_22, hx_22⟩ : ∃ x, (l0)[bI ltb (l0.take k)]? = some x := ⟨_, List.getElem?_eq_getElem (by first | omega | (simp; done) | (simp; omega) | (simp_all; omega))⟩
              obtain ⟨p_23, hp_23, qp_23⟩ := h0.at hx_22
              refine S_v E rfl (R_idx E rfl rfl T22 hp_23 rfl) rfl ?_
              clear E a; intro a E
              refine S_v E rfl (R_loadM E rfl Try.isAgg3 S.imm qp_23) rfl ?_
              clear E a; intro a E
              refine S_v E rfl (R_lss E rfl rfl) rfl ?_
              clear E a; intro a E
              refine WL_nil ?_
              refine T_n ?_
              refine WP_cond E rfl (fun hc_24 => ?_) (fun hc_24 => ?_)
              · replace hc_24 := of_decide_eq_true hc_24
                refine WP_region ?_
                refine S_v E rfl (R_move E rfl) rfl ?_
                clear E a; intro a E
                refine S_v E rfl (R_assign E rfl) rfl ?_
                clear E a; intro a E
                refine WL_nil ?_
                refine T_n ?_
                refine WP_seq ?_
                refine WP_seq ?_
                refine WP_region ?_
                refine S_v E rfl (R_move E rfl) rfl ?_
                clear E a; intro a E
                refine S_v E rfl (R_move E rfl) rfl ?_
                clear E a; intro a E
                refine S_v E rfl (R_move E rfl) rfl ?_
                clear E a; intro a E
                obtain ⟨x_25, hx_25⟩ : ∃ x, (l0)[bI gtb (l0.take k)]? = some x := ⟨_, List.getElem?_eq_getElem (by first | omega | (simp; done) | (simp; omega) | (simp_all; omega))⟩
                obtain ⟨p_26, hp_26, qp_26⟩ := h0.at hx_25
                refine S_v E rfl (R_idx E rfl rfl T22 hp_26 rfl) rfl ?_
                clear E a; intro a E
                refine S_v E rfl (R_loadM E rfl Try.isAgg3 S.imm qp_26) rfl ?_
                clear E a; intro a E
                refine S_v E rfl (R_gtr E rfl rfl) rfl ?_
                clear E a; intro a E
                refine WL_nil ?_
                refine T_n ?_
                refine WP_cond E rfl (fun hc_27 => ?_) (fun hc_27 => ?_)
                · replace hc_27 := of_decide_eq_true hc_27
                  refine WP_region ?_
                  refine S_v E rfl (R_move E rfl) rfl ?_
                  clear E a; intro a E
                  refine S_v E rfl (R_assign E rfl) rfl ?_
                  clear E a; intro a E
                  refine WL_nil ?_
                  refine T_n ?_
                  refine WP_seq ?_
                  refine WP_seq ?_
                  have hb_1k27 := hb_1
                  have qp_21k27 := qp_21
                  have qp_23k27 := qp_23
                  have qp_26k27 := qp_26
                  have h0k27 := h0
                  replace S := S.mono_heap (w' := World.drew _) rfl
                  refine WP_drawn (C := fun x w => agree M_18 w) (bf := (fun i => [])) [0, 1, 3, 4, 5, 6, 7, 9] [0, 1, 3, 4, 5, 6, 7, 2, 8, 9] Try.mixed (by kernel_rfl) (fun x hq => S.imm) ?_
                  refine D_v E rfl rfl rfl (fun w hC => (R_loadGM E rfl (Try.isAgg24 _) (Try.sizeOf24 _) hC hb_1k27)) ?_
                  clear E a; intro a E
                  refine D_v E rfl rfl rfl (fun w hC => (R_move E rfl)) ?_
                  clear E a; intro a E
                  refine D_v E rfl rfl rfl (fun w hC => (R_loadGM E rfl (Try.isAgg24 _) (Try.sizeOf24 _) hC hb_1k27)) ?_
                  clear E a; intro a E
                  refine D_v E rfl rfl rfl (fun w hC => (R_move E rfl)) ?_
                  clear E a; intro a E
                  refine D_v E rfl rfl rfl (fun w hC => (R_move E rfl)) ?_
                  clear E a; intro a E
                  obtain ⟨x_28, hx_28⟩ : ∃ x, (l0)[bI (kLt kk1 kn1) (l0.take k)]? = some x := ⟨_, List.getElem?_eq_getElem (by first | omega | (simp; done) | (simp; omega) | (simp_all; omega))⟩
                  obtain ⟨p_29, hp_29, qp_29⟩ := h0.at hx_28
                  refine D_v E rfl rfl rfl (fun w hC => (R_idx E rfl rfl T22 hp_29 rfl)) ?_
                  clear E a; intro a E
                  refine D_v E rfl rfl rfl (fun w hC => (R_loadM E rfl Try.isAgg3 hC qp_29)) ?_
                  clear E a; intro a E
                  refine D_x rfl rfl rfl (X_pu E S rfl rfl rfl (laws_stands (by omega)) (Hp.le.refl _) ?_)
                  clear E a S; rintro a _ w M_30 hM_30 rfl S E
                  replace h0 := h0.le hM_30
                  replace hb_1 := hM_30.2 _ _ hb_1
                  replace hz_6 := hz_6.le hM_30
                  replace hv_10 := hv_10.le hM_30
                  refine ⟨fun x hq hb => (agree_le hM_30 S.imm), ?_⟩
                  refine D_x rfl rfl rfl (X_pu E S rfl rfl rfl (laws_stands (by omega)) (Hp.le.refl _) ?_)
                  clear E a S; rintro a _ w M_31 hM_31 rfl S E
                  replace h0 := h0.le hM_31
                  replace hb_1 := hM_31.2 _ _ hb_1
                  replace hz_6 := hz_6.le hM_31
                  replace hv_10 := hv_10.le hM_31
                  refine ⟨fun x hq hb => (agree_le (hM_30.trans hM_31) S.imm), ?_⟩
                  refine D_v E rfl rfl rfl (fun w hC => (R_lss E rfl rfl)) ?_
                  clear E a; intro a E
                  refine D_end (NoP_n ?_)
                  refine T_n ?_
                  refine WP_cond E rfl (fun hc_32 => ?_) (fun hc_32 => ?_)
                  · replace hc_32 := of_decide_eq_true hc_32
                    refine WP_region ?_
                    refine S_v E rfl (R_move E rfl) rfl ?_
                    clear E a; intro a E
                    refine S_v E rfl (R_assign E rfl) rfl ?_
                    clear E a; intro a E
                    refine WL_nil ?_
                    refine T_n ?_
                    refine WP_seq ?_
                    have hb_1k32 := hb_1
                    have qp_21k32 := qp_21
                    have qp_23k32 := qp_23
                    have qp_26k32 := qp_26
                    have qp_29k32 := qp_29
                    have h0k32 := h0
                    replace S := S.mono_heap (w' := World.drew _) rfl
                    refine WP_drawn (C := fun x w => agree M_31 w) (bf := (fun i => [])) [0, 1, 3, 4, 5, 6, 7, 9] [0, 1, 3, 4, 5, 6, 7, 2, 8, 9] Try.mixed (by kernel_rfl) (fun x hq => S.imm) ?_
                    refine D_v E rfl rfl rfl (fun w hC => (R_loadGM E rfl (Try.isAgg24 _) (Try.sizeOf24 _) hC hb_1k32)) ?_
                    clear E a; intro a E
                    refine D_v E rfl rfl rfl (fun w hC => (R_move E rfl)) ?_
                    clear E a; intro a E
                    refine D_v E rfl rfl rfl (fun w hC => (R_loadGM E rfl (Try.isAgg24 _) (Try.sizeOf24 _) hC hb_1k32)) ?_
                    clear E a; intro a E
                    refine D_v E rfl rfl rfl (fun w hC => (R_move E rfl)) ?_
                    clear E a; intro a E
                    refine D_v E rfl rfl rfl (fun w hC => (R_move E rfl)) ?_
                    clear E a; intro a E
                    obtain ⟨x_33, hx_33⟩ : ∃ x, (l0)[bI (kGt kk1 kn1) (l0.take k)]? = some x := ⟨_, List.getElem?_eq_getElem (by first | omega | (simp; done) | (simp; omega) | (simp_all; omega))⟩
                    obtain ⟨p_34, hp_34, qp_34⟩ := h0.at hx_33
                    refine D_v E rfl rfl rfl (fun w hC => (R_idx E rfl rfl T22 hp_34 rfl)) ?_
                    clear E a; intro a E
                    refine D_v E rfl rfl rfl (fun w hC => (R_loadM E rfl Try.isAgg3 hC qp_34)) ?_
                    clear E a; intro a E
                    refine D_x rfl rfl rfl (X_pu E S rfl rfl rfl (laws_stands (by omega)) (Hp.le.refl _) ?_)
                    clear E a S; rintro a _ w M_35 hM_35 rfl S E
                    replace h0 := h0.le hM_35
                    replace hb_1 := hM_35.2 _ _ hb_1
                    replace hz_6 := hz_6.le hM_35
                    replace hv_10 := hv_10.le hM_35
                    refine ⟨fun x hq hb => (agree_le hM_35 S.imm), ?_⟩
                    refine D_x rfl rfl rfl (X_pu E S rfl rfl rfl (laws_stands (by omega)) (Hp.le.refl _) ?_)
                    clear E a S; rintro a _ w M_36 hM_36 rfl S E
                    replace h0 := h0.le hM_36
                    replace hb_1 := hM_36.2 _ _ hb_1
                    replace hz_6 := hz_6.le hM_36
                    replace hv_10 := hv_10.le hM_36
                    refine ⟨fun x hq hb => (agree_le (hM_35.trans hM_36) S.imm), ?_⟩
                    refine D_v E rfl rfl rfl (fun w hC => (R_gtr E rfl rfl)) ?_
                    clear E a; intro a E
                    refine D_end (NoP_n ?_)
                    refine T_n ?_
                    refine WP_cond E rfl (fun hc_37 => ?_) (fun hc_37 => ?_)
                    · replace hc_37 := of_decide_eq_true hc_37
                      refine WP_region ?_
                      refine S_v E rfl (R_move E rfl) rfl ?_
                      clear E a; intro a E
                      refine S_v E rfl (R_assign E rfl) rfl ?_
                      clear E a; intro a E
                      refine WL_nil ?_
                      refine B_n ?_
                      refine T_n ?_
                      refine WP_region ?_
                      refine S_v E rfl (R_addx (m := ((k + 1 : Nat) : Int)) E rfl rfl (by omega) (by omega)) rfl ?_
                      clear E a; intro a E
                      refine S_v E rfl (R_move E rfl) rfl ?_
                      clear E a; intro a E
                      refine WL_nil ?_
                      refine T_n ?_
                      exact ⟨k + 1, ⟨M_36, (hM_18.trans (hM_30.trans (hM_31.trans (hM_35.trans hM_36)))), S, E.keep ⟨rfl, rfl, look_nat (i := k) rfl (by (rw [bI_law (c := ltb) (l := l0) (k := k) (by assumption) (by assumption)]; first | (rw [if_pos]; (first | assumption | (simp only [ltb, gtb, kLt, kGt, decide_eq_true_eq]; assumption) | (simp only [cg, ltb, gtb, kLt, kGt]; simp_all; done))) | (rw [if_neg]; intro hz; (try simp only [ltb, gtb, kLt, kGt, decide_eq_true_eq] at hz); first | contradiction | omega))), look_nat (i := k) rfl (by (rw [bI_law (c := gtb) (l := l0) (k := k) (by assumption) (by assumption)]; first | (rw [if_pos]; (first | assumption | (simp only [ltb, gtb, kLt, kGt, decide_eq_true_eq]; assumption) | (simp only [cg, ltb, gtb, kLt, kGt]; simp_all; done))) | (rw [if_neg]; intro hz; (try simp only [ltb, gtb, kLt, kGt, decide_eq_true_eq] at hz); first | contradiction | omega))), look_nat (i := k) rfl (by (rw [bI_law (c := (kLt kk1 kn1)) (l := l0) (k := k) (by assumption) (by assumption)]; first | (rw [if_pos]; (first | assumption | (simp only [ltb, gtb, kLt, kGt, decide_eq_true_eq]; assumption) | (simp only [cg, ltb, gtb, kLt, kGt]; simp_all; done))) | (rw [if_neg]; intro hz; (try simp only [ltb, gtb, kLt, kGt, decide_eq_true_eq] at hz); first | contradiction | omega))), look_nat (i := k) rfl (by (rw [bI_law (c := (kGt kk1 kn1)) (l := l0) (k := k) (by assumption) (by assumption)]; first | (rw [if_pos]; (first | assumption | (simp only [ltb, gtb, kLt, kGt, decide_eq_true_eq]; assumption) | (simp only [cg, ltb, gtb, kLt, kGt]; simp_all; done))) | (rw [if_neg]; intro hz; (try simp only [ltb, gtb, kLt, kGt, decide_eq_true_eq] at hz); first | contradiction | omega))), rfl, rfl, rfl, trivial⟩, by ((try clear S); (try clear E); first | assumption | omega | rfl | (simp; done) | (simp_all; done) | (simp [List.take_add_one, *]; done) | grind [List.take_add_one])⟩, by omega⟩
                    · replace hc_37 := of_decide_eq_false hc_37
                      refine WP_skip ?_
                      refine B_n ?_
                      refine T_n ?_
                      refine WP_region ?_
                      refine S_v E rfl (R_addx (m := ((k + 1 : Nat) : Int)) E rfl rfl (by omega) (by omega)) rfl ?_
                      clear E a; intro a E
                      refine S_v E rfl (R_move E rfl) rfl ?_
                      clear E a; intro a E
                      refine WL_nil ?_
                      refine T_n ?_
                      exact ⟨k + 1, ⟨M_36, (hM_18.trans (hM_30.trans (hM_31.trans (hM_35.trans hM_36)))), S, E.keep ⟨rfl, rfl, look_nat (i := k) rfl (by (rw [bI_law (c := ltb) (l := l0) (k := k) (by assumption) (by assumption)]; first | (rw [if_pos]; (first | assumption | (simp only [ltb, gtb, kLt, kGt, decide_eq_true_eq]; assumption) | (simp only [cg, ltb, gtb, kLt, kGt]; simp_all; done))) | (rw [if_neg]; intro hz; (try simp only [ltb, gtb, kLt, kGt, decide_eq_true_eq] at hz); first | contradiction | omega))), look_nat (i := k) rfl (by (rw [bI_law (c := gtb) (l := l0) (k := k) (by assumption) (by assumption)]; first | (rw [if_pos]; (first | assumption | (simp only [ltb, gtb, kLt, kGt, decide_eq_true_eq]; assumption) | (simp only [cg, ltb, gtb, kLt, kGt]; simp_all; done))) | (rw [if_neg]; intro hz; (try simp only [ltb, gtb, kLt, kGt, decide_eq_true_eq] at hz); first | contradiction | omega))), look_nat (i := k) rfl (by (rw [bI_law (c := (kLt kk1 kn1)) (l := l0) (k := k) (by assumption) (by assumption)]; first | (rw [if_pos]; (first | assumption | (simp only [ltb, gtb, kLt, kGt, decide_eq_true_eq]; assumption) | (simp only [cg, ltb, gtb, kLt, kGt]; simp_all; done))) | (rw [if_neg]; intro hz; (try simp only [ltb, gtb, kLt, kGt, decide_eq_true_eq] at hz); first | contradiction | omega))), look_nat (i := bI (kGt kk1 kn1) (l0.take k)) rfl (by (rw [bI_law (c := (kGt kk1 kn1)) (l := l0) (k := k) (by assumption) (by assumption)]; first | (rw [if_pos]; (first | assumption | (simp only [ltb, gtb, kLt, kGt, decide_eq_true_eq]; assumption) | (simp only [cg, ltb, gtb, kLt, kGt]; simp_all; done))) | (rw [if_neg]; intro hz; (try simp only [ltb, gtb, kLt, kGt, decide_eq_true_eq] at hz); first | contradiction | omega))), rfl, rfl, rfl, trivial⟩, by ((try clear S); (try clear E); first | assumption | omega | rfl | (simp; done) | (simp_all; done) | (simp [List.take_add_one, *]; done) | grind [List.take_add_one])⟩, by omega⟩
                  · replace hc_32 := of_decide_eq_false hc_32
                    refine WP_skip ?_
                    refine T_n ?_
                    refine WP_seq ?_
                    have hb_1k37 := hb_1
                    have qp_21k37 := qp_21
                    have qp_23k37 := qp_23
                    have qp_26k37 := qp_26
                    have qp_29k37 := qp_29
                    have h0k37 := h0
                    replace S := S.mono_heap (w' := World.drew _) rfl
                    refine WP_drawn (C := fun x w => agree M_31 w) (bf := (fun i => [])) [0, 1, 3, 4, 5, 6, 7, 9] [0, 1, 3, 4, 5, 6, 7, 2, 8, 9] Try.mixed (by kernel_rfl) (fun x hq => S.imm) ?_
                    refine D_v E rfl rfl rfl (fun w hC => (R_loadGM E rfl (Try.isAgg24 _) (Try.sizeOf24 _) hC hb_1k37)) ?_
                    clear E a; intro a E
                    refine D_v E rfl rfl rfl (fun w hC => (R_move E rfl)) ?_
                    clear E a; intro a E
                    refine D_v E rfl rfl rfl (fun w hC => (R_loadGM E rfl (Try.isAgg24 _) (Try.sizeOf24 _) hC hb_1k37)) ?_
                    clear E a; intro a E
                    refine D_v E rfl rfl rfl (fun w hC => (R_move E rfl)) ?_
                    clear E a; intro a E
                    refine D_v E rfl rfl rfl (fun w hC => (R_move E rfl)) ?_
                    clear E a; intro a E
                    obtain ⟨x_38, hx_38⟩ : ∃ x, (l0)[bI (kGt kk1 kn1) (l0.take k)]? = some x := ⟨_, List.getElem?_eq_getElem (by first | omega | (simp; done) | (simp; omega) | (simp_all; omega))⟩
                    obtain ⟨p_39, hp_39, qp_39⟩ := h0.at hx_38
                    refine D_v E rfl rfl rfl (fun w hC => (R_idx E rfl rfl T22 hp_39 rfl)) ?_
                    clear E a; intro a E
                    refine D_v E rfl rfl rfl (fun w hC => (R_loadM E rfl Try.isAgg3 hC qp_39)) ?_
                    clear E a; intro a E
                    refine D_x rfl rfl rfl (X_pu E S rfl rfl rfl (laws_stands (by omega)) (Hp.le.refl _) ?_)
                    clear E a S; rintro a _ w M_40 hM_40 rfl S E
                    replace h0 := h0.le hM_40
                    replace hb_1 := hM_40.2 _ _ hb_1
                    replace hz_6 := hz_6.le hM_40
                    replace hv_10 := hv_10.le hM_40
                    refine ⟨fun x hq hb => (agree_le hM_40 S.imm), ?_⟩
                    refine D_x rfl rfl rfl (X_pu E S rfl rfl rfl (laws_stands (by omega)) (Hp.le.refl _) ?_)
                    clear E a S; rintro a _ w M_41 hM_41 rfl S E
                    replace h0 := h0.le hM_41
                    replace hb_1 := hM_41.2 _ _ hb_1
                    replace hz_6 := hz_6.le hM_41
                    replace hv_10 := hv_10.le hM_41
                    refine ⟨fun x hq hb => (agree_le (hM_40.trans hM_41) S.imm), ?_⟩
                    refine D_v E rfl rfl rfl (fun w hC => (R_gtr E rfl rfl)) ?_
                    clear E a; intro a E
                    refine D_end (NoP_n ?_)
                    refine T_n ?_
                    refine WP_cond E rfl (fun hc_42 => ?_) (fun hc_42 => ?_)
                    · replace hc_42 := of_decide_eq_true hc_42
                      refine WP_region ?_
                      refine S_v E rfl (R_move E rfl) rfl ?_
                      clear E a; intro a E
                      refine S_v E rfl (R_assign E rfl) rfl ?_
                      clear E a; intro a E
                      refine WL_nil ?_
                      refine B_n ?_
                      refine T_n ?_
                      refine WP_region ?_
                      refine S_v E rfl (R_addx (m := ((k + 1 : Nat) : Int)) E rfl rfl (by omega) (by omega)) rfl ?_
                      clear E a; intro a E
                      refine S_v E rfl (R_move E rfl) rfl ?_
                      clear E a; intro a E
                      refine WL_nil ?_
                      refine T_n ?_
                      exact ⟨k + 1, ⟨M_41, (hM_18.trans (hM_30.trans (hM_31.trans (hM_40.trans hM_41)))), S, E.keep ⟨rfl, rfl, look_nat (i := k) rfl (by (rw [bI_law (c := ltb) (l := l0) (k := k) (by assumption) (by assumption)]; first | (rw [if_pos]; (first | assumption | (simp only [ltb, gtb, kLt, kGt, decide_eq_true_eq]; assumption) | (simp only [cg, ltb, gtb, kLt, kGt]; simp_all; done))) | (rw [if_neg]; intro hz; (try simp only [ltb, gtb, kLt, kGt, decide_eq_true_eq] at hz); first | contradiction | omega))), look_nat (i := k) rfl (by (rw [bI_law (c := gtb) (l := l0) (k := k) (by assumption) (by assumption)]; first | (rw [if_pos]; (first | assumption | (simp only [ltb, gtb, kLt, kGt, decide_eq_true_eq]; assumption) | (simp only [cg, ltb, gtb, kLt, kGt]; simp_all; done))) | (rw [if_neg]; intro hz; (try simp only [ltb, gtb, kLt, kGt, decide_eq_true_eq] at hz); first | contradiction | omega))), look_nat (i := bI (kLt kk1 kn1) (l0.take k)) rfl (by (rw [bI_law (c := (kLt kk1 kn1)) (l := l0) (k := k) (by assumption) (by assumption)]; first | (rw [if_pos]; (first | assumption | (simp only [ltb, gtb, kLt, kGt, decide_eq_true_eq]; assumption) | (simp only [cg, ltb, gtb, kLt, kGt]; simp_all; done))) | (rw [if_neg]; intro hz; (try simp only [ltb, gtb, kLt, kGt, decide_eq_true_eq] at hz); first | contradiction | omega))), look_nat (i := k) rfl (by (rw [bI_law (c := (kGt kk1 kn1)) (l := l0) (k := k) (by assumption) (by assumption)]; first | (rw [if_pos]; (first | assumption | (simp only [ltb, gtb, kLt, kGt, decide_eq_true_eq]; assumption) | (simp only [cg, ltb, gtb, kLt, kGt]; simp_all; done))) | (rw [if_neg]; intro hz; (try simp only [ltb, gtb, kLt, kGt, decide_eq_true_eq] at hz); first | contradiction | omega))), rfl, rfl, rfl, trivial⟩, by ((try clear S); (try clear E); first | assumption | omega | rfl | (simp; done) | (simp_all; done) | (simp [List.take_add_one, *]; done) | grind [List.take_add_one])⟩, by omega⟩
                    · replace hc_42 := of_decide_eq_false hc_42
                      refine WP_skip ?_
                      refine B_n ?_
                      refine T_n ?_
                      refine WP_region ?_
                      refine S_v E rfl (R_addx (m := ((k + 1 : Nat) : Int)) E rfl rfl (by omega) (by omega)) rfl ?_
                      clear E a; intro a E
                      refine S_v E rfl (R_move E rfl) rfl ?_
                      clear E a; intro a E
                      refine WL_nil ?_
                      refine T_n ?_
                      exact ⟨k + 1, ⟨M_41, (hM_18.trans (hM_30.trans (hM_31.trans (hM_40.trans hM_41)))), S, E.keep ⟨rfl, rfl, look_nat (i := k) rfl (by (rw [bI_law (c := ltb) (l := l0) (k := k) (by assumption) (by assumption)]; first | (rw [if_pos]; (first | assumption | (simp only [ltb, gtb, kLt, kGt, decide_eq_true_eq]; assumption) | (simp only [cg, ltb, gtb, kLt, kGt]; simp_all; done))) | (rw [if_neg]; intro hz; (try simp only [ltb, gtb, kLt, kGt, decide_eq_true_eq] at hz); first | contradiction | omega))), look_nat (i := k) rfl (by (rw [bI_law (c := gtb) (l := l0) (k := k) (by assumption) (by assumption)]; first | (rw [if_pos]; (first | assumption | (simp only [ltb, gtb, kLt, kGt, decide_eq_true_eq]; assumption) | (simp only [cg, ltb, gtb, kLt, kGt]; simp_all; done))) | (rw [if_neg]; intro hz; (try simp only [ltb, gtb, kLt, kGt, decide_eq_true_eq] at hz); first | contradiction | omega))), look_nat (i := bI (kLt kk1 kn1) (l0.take k)) rfl (by (rw [bI_law (c := (kLt kk1 kn1)) (l := l0) (k := k) (by assumption) (by assumption)]; first | (rw [if_pos]; (first | assumption | (simp only [ltb, gtb, kLt, kGt, decide_eq_true_eq]; assumption) | (simp only [cg, ltb, gtb, kLt, kGt]; simp_all; done))) | (rw [if_neg]; intro hz; (try simp only [ltb, gtb, kLt, kGt, decide_eq_true_eq] at hz); first | contradiction | omega))), look_nat (i := bI (kGt kk1 kn1) (l0.take k)) rfl (by (rw [bI_law (c := (kGt kk1 kn1)) (l := l0) (k := k) (by assumption) (by assumption)]; first | (rw [if_pos]; (first | assumption | (simp only [ltb, gtb, kLt, kGt, decide_eq_true_eq]; assumption) | (simp only [cg, ltb, gtb, kLt, kGt]; simp_all; done))) | (rw [if_neg]; intro hz; (try simp only [ltb, gtb, kLt, kGt, decide_eq_true_eq] at hz); first | contradiction | omega))), rfl, rfl, rfl, trivial⟩, by ((try clear S); (try clear E); first | assumption | omega | rfl | (simp; done) | (simp_all; done) | (simp [List.take_add_one, *]; done) | grind [List.take_add_one])⟩, by omega⟩
                · replace hc_27 := of_decide_eq_false hc_27
                  refine WP_skip ?_
                  refine T_n ?_
                  refine WP_seq ?_
                  refine WP_seq ?_
                  have hb_1k42 := hb_1
                  have qp_21k42 := qp_21
                  have qp_23k42 := qp_23
                  have qp_26k42 := qp_26
                  have h0k42 := h0
                  replace S := S.mono_heap (w' := World.drew _) rfl
                  refine WP_drawn (C := fun x w => agree M_18 w) (bf := (fun i => [])) [0, 1, 3, 4, 5, 6, 7, 9] [0, 1, 3, 4, 5, 6, 7, 2, 8, 9] Try.mixed (by kernel_rfl) (fun x hq => S.imm) ?_
                  refine D_v E rfl rfl rfl (fun w hC => (R_loadGM E rfl (Try.isAgg24 _) (Try.sizeOf24 _) hC hb_1k42)) ?_
                  clear E a; intro a E
                  refine D_v E rfl rfl rfl (fun w hC => (R_move E rfl)) ?_
                  clear E a; intro a E
                  refine D_v E rfl rfl rfl (fun w hC => (R_loadGM E rfl (Try.isAgg24 _) (Try.sizeOf24 _) hC hb_1k42)) ?_
                  clear E a; intro a E
                  refine D_v E rfl rfl rfl (fun w hC => (R_move E rfl)) ?_
                  clear E a; intro a E
                  refine D_v E rfl rfl rfl (fun w hC => (R_move E rfl)) ?_
                  clear E a; intro a E
                  obtain ⟨x_43, hx_43⟩ : ∃ x, (l0)[bI (kLt kk1 kn1) (l0.take k)]? = some x := ⟨_, List.getElem?_eq_getElem (by first | omega | (simp; done) | (simp; omega) | (simp_all; omega))⟩
                  obtain ⟨p_44, hp_44, qp_44⟩ := h0.at hx_43
                  refine D_v E rfl rfl rfl (fun w hC => (R_idx E rfl rfl T22 hp_44 rfl)) ?_
                  clear E a; intro a E
                  refine D_v E rfl rfl rfl (fun w hC => (R_loadM E rfl Try.isAgg3 hC qp_44)) ?_
                  clear E a; intro a E
                  refine D_x rfl rfl rfl (X_pu E S rfl rfl rfl (laws_stands (by omega)) (Hp.le.refl _) ?_)
                  clear E a S; rintro a _ w M_45 hM_45 rfl S E
                  replace h0 := h0.le hM_45
                  replace hb_1 := hM_45.2 _ _ hb_1
                  replace hz_6 := hz_6.le hM_45
                  replace hv_10 := hv_10.le hM_45
                  refine ⟨fun x hq hb => (agree_le hM_45 S.imm), ?_⟩
                  refine D_x rfl rfl rfl (X_pu E S rfl rfl rfl (laws_stands (by omega)) (Hp.le.refl _) ?_)
                  clear E a S; rintro a _ w M_46 hM_46 rfl S E
                  replace h0 := h0.le hM_46
                  replace hb_1 := hM_46.2 _ _ hb_1
                  replace hz_6 := hz_6.le hM_46
                  replace hv_10 := hv_10.le hM_46
                  refine ⟨fun x hq hb => (agree_le (hM_45.trans hM_46) S.imm), ?_⟩
                  refine D_v E rfl rfl rfl (fun w hC => (R_lss E rfl rfl)) ?_
                  clear E a; intro a E
                  refine D_end (NoP_n ?_)
                  refine T_n ?_
                  refine WP_cond E rfl (fun hc_47 => ?_) (fun hc_47 => ?_)
                  · replace hc_47 := of_decide_eq_true hc_47
                    refine WP_region ?_
                    refine S_v E rfl (R_move E rfl) rfl ?_
                    clear E a; intro a E
                    refine S_v E rfl (R_assign E rfl) rfl ?_
                    clear E a; intro a E
                    refine WL_nil ?_
                    refine T_n ?_
                    refine WP_seq ?_
                    have hb_1k47 := hb_1
                    have qp_21k47 := qp_21
                    have qp_23k47 := qp_23
                    have qp_26k47 := qp_26
                    have qp_44k47 := qp_44
                    have h0k47 := h0
                    replace S := S.mono_heap (w' := World.drew _) rfl
                    refine WP_drawn (C := fun x w => agree M_46 w) (bf := (fun i => [])) [0, 1, 3, 4, 5, 6, 7, 9] [0, 1, 3, 4, 5, 6, 7, 2, 8, 9] Try.mixed (by kernel_rfl) (fun x hq => S.imm) ?_
                    refine D_v E rfl rfl rfl (fun w hC => (R_loadGM E rfl (Try.isAgg24 _) (Try.sizeOf24 _) hC hb_1k47)) ?_
                    clear E a; intro a E
                    refine D_v E rfl rfl rfl (fun w hC => (R_move E rfl)) ?_
                    clear E a; intro a E
                    refine D_v E rfl rfl rfl (fun w hC => (R_loadGM E rfl (Try.isAgg24 _) (Try.sizeOf24 _) hC hb_1k47)) ?_
                    clear E a; intro a E
                    refine D_v E rfl rfl rfl (fun w hC => (R_move E rfl)) ?_
                    clear E a; intro a E
                    refine D_v E rfl rfl rfl (fun w hC => (R_move E rfl)) ?_
                    clear E a; intro a E
                    obtain ⟨x_48, hx_48⟩ : ∃ x, (l0)[bI (kGt kk1 kn1) (l0.take k)]? = some x := ⟨_, List.getElem?_eq_getElem (by first | omega | (simp; done) | (simp; omega) | (simp_all; omega))⟩
                    obtain ⟨p_49, hp_49, qp_49⟩ := h0.at hx_48
                    refine D_v E rfl rfl rfl (fun w hC => (R_idx E rfl rfl T22 hp_49 rfl)) ?_
                    clear E a; intro a E
                    refine D_v E rfl rfl rfl (fun w hC => (R_loadM E rfl Try.isAgg3 hC qp_49)) ?_
                    clear E a; intro a E
                    refine D_x rfl rfl rfl (X_pu E S rfl rfl rfl (laws_stands (by omega)) (Hp.le.refl _) ?_)
                    clear E a S; rintro a _ w M_50 hM_50 rfl S E
                    replace h0 := h0.le hM_50
                    replace hb_1 := hM_50.2 _ _ hb_1
                    replace hz_6 := hz_6.le hM_50
                    replace hv_10 := hv_10.le hM_50
                    refine ⟨fun x hq hb => (agree_le hM_50 S.imm), ?_⟩
                    refine D_x rfl rfl rfl (X_pu E S rfl rfl rfl (laws_stands (by omega)) (Hp.le.refl _) ?_)
                    clear E a S; rintro a _ w M_51 hM_51 rfl S E
                    replace h0 := h0.le hM_51
                    replace hb_1 := hM_51.2 _ _ hb_1
                    replace hz_6 := hz_6.le hM_51
                    replace hv_10 := hv_10.le hM_51
                    refine ⟨fun x hq hb => (agree_le (hM_50.trans hM_51) S.imm), ?_⟩
                    refine D_v E rfl rfl rfl (fun w hC => (R_gtr E rfl rfl)) ?_
                    clear E a; intro a E
                    refine D_end (NoP_n ?_)
                    refine T_n ?_
                    refine WP_cond E rfl (fun hc_52 => ?_) (fun hc_52 => ?_)
                    · replace hc_52 := of_decide_eq_true hc_52
                      refine WP_region ?_
                      refine S_v E rfl (R_move E rfl) rfl ?_
                      clear E a; intro a E
                      refine S_v E rfl (R_assign E rfl) rfl ?_
                      clear E a; intro a E
                      refine WL_nil ?_
                      refine B_n ?_
                      refine T_n ?_
                      refine WP_region ?_
                      refine S_v E rfl (R_addx (m := ((k + 1 : Nat) : Int)) E rfl rfl (by omega) (by omega)) rfl ?_
                      clear E a; intro a E
                      refine S_v E rfl (R_move E rfl) rfl ?_
                      clear E a; intro a E
                      refine WL_nil ?_
                      refine T_n ?_
                      exact ⟨k + 1, ⟨M_51, (hM_18.trans (hM_45.trans (hM_46.trans (hM_50.trans hM_51)))), S, E.keep ⟨rfl, rfl, look_nat (i := k) rfl (by (rw [bI_law (c := ltb) (l := l0) (k := k) (by assumption) (by assumption)]; first | (rw [if_pos]; (first | assumption | (simp only [ltb, gtb, kLt, kGt, decide_eq_true_eq]; assumption) | (simp only [cg, ltb, gtb, kLt, kGt]; simp_all; done))) | (rw [if_neg]; intro hz; (try simp only [ltb, gtb, kLt, kGt, decide_eq_true_eq] at hz); first | contradiction | omega))), look_nat (i := bI gtb (l0.take k)) rfl (by (rw [bI_law (c := gtb) (l := l0) (k := k) (by assumption) (by assumption)]; first | (rw [if_pos]; (first | assumption | (simp only [ltb, gtb, kLt, kGt, decide_eq_true_eq]; assumption) | (simp only [cg, ltb, gtb, kLt, kGt]; simp_all; done))) | (rw [if_neg]; intro hz; (try simp only [ltb, gtb, kLt, kGt, decide_eq_true_eq] at hz); first | contradiction | omega))), look_nat (i := k) rfl (by (rw [bI_law (c := (kLt kk1 kn1)) (l := l0) (k := k) (by assumption) (by assumption)]; first | (rw [if_pos]; (first | assumption | (simp only [ltb, gtb, kLt, kGt, decide_eq_true_eq]; assumption) | (simp only [cg, ltb, gtb, kLt, kGt]; simp_all; done))) | (rw [if_neg]; intro hz; (try simp only [ltb, gtb, kLt, kGt, decide_eq_true_eq] at hz); first | contradiction | omega))), look_nat (i := k) rfl (by (rw [bI_law (c := (kGt kk1 kn1)) (l := l0) (k := k) (by assumption) (by assumption)]; first | (rw [if_pos]; (first | assumption | (simp only [ltb, gtb, kLt, kGt, decide_eq_true_eq]; assumption) | (simp only [cg, ltb, gtb, kLt, kGt]; simp_all; done))) | (rw [if_neg]; intro hz; (try simp only [ltb, gtb, kLt, kGt, decide_eq_true_eq] at hz); first | contradiction | omega))), rfl, rfl, rfl, trivial⟩, by ((try clear S); (try clear E); first | assumption | omega | rfl | (simp; done) | (simp_all; done) | (simp [List.take_add_one, *]; done) | grind [List.take_add_one])⟩, by omega⟩
                    · replace hc_52 := of_decide_eq_false hc_52
                      refine WP_skip ?_
                      refine B_n ?_
                      refine T_n ?_
                      refine WP_region ?_
                      refine S_v E rfl (R_addx (m := ((k + 1 : Nat) : Int)) E rfl rfl (by omega) (by omega)) rfl ?_
                      clear E a; intro a E
                      refine S_v E rfl (R_move E rfl) rfl ?_
                      clear E a; intro a E
                      refine WL_nil ?_
                      refine T_n ?_
                      exact ⟨k + 1, ⟨M_51, (hM_18.trans (hM_45.trans (hM_46.trans (hM_50.trans hM_51)))), S, E.keep ⟨rfl, rfl, look_nat (i := k) rfl (by (rw [bI_law (c := ltb) (l := l0) (k := k) (by assumption) (by assumption)]; first | (rw [if_pos]; (first | assumption | (simp only [ltb, gtb, kLt, kGt, decide_eq_true_eq]; assumption) | (simp only [cg, ltb, gtb, kLt, kGt]; simp_all; done))) | (rw [if_neg]; intro hz; (try simp only [ltb, gtb, kLt, kGt, decide_eq_true_eq] at hz); first | contradiction | omega))), look_nat (i := bI gtb (l0.take k)) rfl (by (rw [bI_law (c := gtb) (l := l0) (k := k) (by assumption) (by assumption)]; first | (rw [if_pos]; (first | assumption | (simp only [ltb, gtb, kLt, kGt, decide_eq_true_eq]; assumption) | (simp only [cg, ltb, gtb, kLt, kGt]; simp_all; done))) | (rw [if_neg]; intro hz; (try simp only [ltb, gtb, kLt, kGt, decide_eq_true_eq] at hz); first | contradiction | omega))), look_nat (i := k) rfl (by (rw [bI_law (c := (kLt kk1 kn1)) (l := l0) (k := k) (by assumption) (by assumption)]; first | (rw [if_pos]; (first | assumption | (simp only [ltb, gtb, kLt, kGt, decide_eq_true_eq]; assumption) | (simp only [cg, ltb, gtb, kLt, kGt]; simp_all; done))) | (rw [if_neg]; intro hz; (try simp only [ltb, gtb, kLt, kGt, decide_eq_true_eq] at hz); first | contradiction | omega))), look_nat (i := bI (kGt kk1 kn1) (l0.take k)) rfl (by (rw [bI_law (c := (kGt kk1 kn1)) (l := l0) (k := k) (by assumption) (by assumption)]; first | (rw [if_pos]; (first | assumption | (simp only [ltb, gtb, kLt, kGt, decide_eq_true_eq]; assumption) | (simp only [cg, ltb, gtb, kLt, kGt]; simp_all; done))) | (rw [if_neg]; intro hz; (try simp only [ltb, gtb, kLt, kGt, decide_eq_true_eq] at hz); first | contradiction | omega))), rfl, rfl, rfl, trivial⟩, by ((try clear S); (try clear E); first | assumption | omega | rfl | (simp; done) | (simp_all; done) | (simp [List.take_add_one, *]; done) | grind [List.take_add_one])⟩, by omega⟩
                  · replace hc_47 := of_decide_eq_false hc_47
                    refine WP_skip ?_
                    refine T_n ?_
                    refine WP_seq ?_
                    have hb_1k52 := hb_1
                    have qp_21k52 := qp_21
                    have qp_23k52 := qp_23
                    have qp_26k52 := qp_26
                    have qp_44k52 := qp_44
                    have h0k52 := h0
                    replace S := S.mono_heap (w' := World.drew _) rfl
                    refine WP_drawn (C := fun x w => agree M_46 w) (bf := (fun i => [])) [0, 1, 3, 4, 5, 6, 7, 9] [0, 1, 3, 4, 5, 6, 7, 2, 8, 9] Try.mixed (by kernel_rfl) (fun x hq => S.imm) ?_
                    refine D_v E rfl rfl rfl (fun w hC => (R_loadGM E rfl (Try.isAgg24 _) (Try.sizeOf24 _) hC hb_1k52)) ?_
                    clear E a; intro a E
                    refine D_v E rfl rfl rfl (fun w hC => (R_move E rfl)) ?_
                    clear E a; intro a E
                    refine D_v E rfl rfl rfl (fun w hC => (R_loadGM E rfl (Try.isAgg24 _) (Try.sizeOf24 _) hC hb_1k52)) ?_
                    clear E a; intro a E
                    refine D_v E rfl rfl rfl (fun w hC => (R_move E rfl)) ?_
                    clear E a; intro a E
                    refine D_v E rfl rfl rfl (fun w hC => (R_move E rfl)) ?_
                    clear E a; intro a E
                    obtain ⟨x_53, hx_53⟩ : ∃ x, (l0)[bI (kGt kk1 kn1) (l0.take k)]? = some x := ⟨_, List.getElem?_eq_getElem (by first | omega | (simp; done) | (simp; omega) | (simp_all; omega))⟩
                    obtain ⟨p_54, hp_54, qp_54⟩ := h0.at hx_53
                    refine D_v E rfl rfl rfl (fun w hC => (R_idx E rfl rfl T22 hp_54 rfl)) ?_
                    clear E a; intro a E
                    refine D_v E rfl rfl rfl (fun w hC => (R_loadM E rfl Try.isAgg3 hC qp_54)) ?_
                    clear E a; intro a E
                    refine D_x rfl rfl rfl (X_pu E S rfl rfl rfl (laws_stands (by omega)) (Hp.le.refl _) ?_)
                    clear E a S; rintro a _ w M_55 hM_55 rfl S E
                    replace h0 := h0.le hM_55
                    replace hb_1 := hM_55.2 _ _ hb_1
                    replace hz_6 := hz_6.le hM_55
                    replace hv_10 := hv_10.le hM_55
                    refine ⟨fun x hq hb => (agree_le hM_55 S.imm), ?_⟩
                    refine D_x rfl rfl rfl (X_pu E S rfl rfl rfl (laws_stands (by omega)) (Hp.le.refl _) ?_)
                    clear E a S; rintro a _ w M_56 hM_56 rfl S E
                    replace h0 := h0.le hM_56
                    replace hb_1 := hM_56.2 _ _ hb_1
                    replace hz_6 := hz_6.le hM_56
                    replace hv_10 := hv_10.le hM_56
                    refine ⟨fun x hq hb => (agree_le (hM_55.trans hM_56) S.imm), ?_⟩
                    refine D_v E rfl rfl rfl (fun w hC => (R_gtr E rfl rfl)) ?_
                    clear E a; intro a E
                    refine D_end (NoP_n ?_)
                    refine T_n ?_
                    refine WP_cond E rfl (fun hc_57 => ?_) (fun hc_57 => ?_)
                    · replace hc_57 := of_decide_eq_true hc_57
                      refine WP_region ?_
                      refine S_v E rfl (R_move E rfl) rfl ?_
                      clear E a; intro a E
                      refine S_v E rfl (R_assign E rfl) rfl ?_
                      clear E a; intro a E
                      refine WL_nil ?_
                      refine B_n ?_
                      refine T_n ?_
                      refine WP_region ?_
                      refine S_v E rfl (R_addx (m := ((k + 1 : Nat) : Int)) E rfl rfl (by omega) (by omega)) rfl ?_
                      clear E a; intro a E
                      refine S_v E rfl (R_move E rfl) rfl ?_
                      clear E a; intro a E
                      refine WL_nil ?_
                      refine T_n ?_
                      exact ⟨k + 1, ⟨M_56, (hM_18.trans (hM_45.trans (hM_46.trans (hM_55.trans hM_56)))), S, E.keep ⟨rfl, rfl, look_nat (i := k) rfl (by (rw [bI_law (c := ltb) (l := l0) (k := k) (by assumption) (by assumption)]; first | (rw [if_pos]; (first | assumption | (simp only [ltb, gtb, kLt, kGt, decide_eq_true_eq]; assumption) | (simp only [cg, ltb, gtb, kLt, kGt]; simp_all; done))) | (rw [if_neg]; intro hz; (try simp only [ltb, gtb, kLt, kGt, decide_eq_true_eq] at hz); first | contradiction | omega))), look_nat (i := bI gtb (l0.take k)) rfl (by (rw [bI_law (c := gtb) (l := l0) (k := k) (by assumption) (by assumption)]; first | (rw [if_pos]; (first | assumption | (simp only [ltb, gtb, kLt, kGt, decide_eq_true_eq]; assumption) | (simp only [cg, ltb, gtb, kLt, kGt]; simp_all; done))) | (rw [if_neg]; intro hz; (try simp only [ltb, gtb, kLt, kGt, decide_eq_true_eq] at hz); first | contradiction | omega))), look_nat (i := bI (kLt kk1 kn1) (l0.take k)) rfl (by (rw [bI_law (c := (kLt kk1 kn1)) (l := l0) (k := k) (by assumption) (by assumption)]; first | (rw [if_pos]; (first | assumption | (simp only [ltb, gtb, kLt, kGt, decide_eq_true_eq]; assumption) | (simp only [cg, ltb, gtb, kLt, kGt]; simp_all; done))) | (rw [if_neg]; intro hz; (try simp only [ltb, gtb, kLt, kGt, decide_eq_true_eq] at hz); first | contradiction | omega))), look_nat (i := k) rfl (by (rw [bI_law (c := (kGt kk1 kn1)) (l := l0) (k := k) (by assumption) (by assumption)]; first | (rw [if_pos]; (first | assumption | (simp only [ltb, gtb, kLt, kGt, decide_eq_true_eq]; assumption) | (simp only [cg, ltb, gtb, kLt, kGt]; simp_all; done))) | (rw [if_neg]; intro hz; (try simp only [ltb, gtb, kLt, kGt, decide_eq_true_eq] at hz); first | contradiction | omega))), rfl, rfl, rfl, trivial⟩, by ((try clear S); (try clear E); first | assumption | omega | rfl | (simp; done) | (simp_all; done) | (simp [List.take_add_one, *]; done) | grind [List.take_add_one])⟩, by omega⟩
                    · replace hc_57 := of_decide_eq_false hc_57
                      refine WP_skip ?_
                      refine B_n ?_
                      refine T_n ?_
                      refine WP_region ?_
                      refine S_v E rfl (R_addx (m := ((k + 1 : Nat) : Int)) E rfl rfl (by omega) (by omega)) rfl ?_
                      clear E a; intro a E
                      refine S_v E rfl (R_move E rfl) rfl ?_
                      clear E a; intro a E
                      refine WL_nil ?_
                      refine T_n ?_
                      exact ⟨k + 1, ⟨M_56, (hM_18.trans (hM_45.trans (hM_46.trans (hM_55.trans hM_56)))), S, E.keep ⟨rfl, rfl, look_nat (i := k) rfl (by (rw [bI_law (c := ltb) (l := l0) (k := k) (by assumption) (by assumption)]; first | (rw [if_pos]; (first | assumption | (simp only [ltb, gtb, kLt, kGt, decide_eq_true_eq]; assumption) | (simp only [cg, ltb, gtb, kLt, kGt]; simp_all; done))) | (rw [if_neg]; intro hz; (try simp only [ltb, gtb, kLt, kGt, decide_eq_true_eq] at hz); first | contradiction | omega))), look_nat (i := bI gtb (l0.take k)) rfl (by (rw [bI_law (c := gtb) (l := l0) (k := k) (by assumption) (by assumption)]; first | (rw [if_pos]; (first | assumption | (simp only [ltb, gtb, kLt, kGt, decide_eq_true_eq]; assumption) | (simp only [cg, ltb, gtb, kLt, kGt]; simp_all; done))) | (rw [if_neg]; intro hz; (try simp only [ltb, gtb, kLt, kGt, decide_eq_true_eq] at hz); first | contradiction | omega))), look_nat (i := bI (kLt kk1 kn1) (l0.take k)) rfl (by (rw [bI_law (c := (kLt kk1 kn1)) (l := l0) (k := k) (by assumption) (by assumption)]; first | (rw [if_pos]; (first | assumption | (simp only [ltb, gtb, kLt, kGt, decide_eq_true_eq]; assumption) | (simp only [cg, ltb, gtb, kLt, kGt]; simp_all; done))) | (rw [if_neg]; intro hz; (try simp only [ltb, gtb, kLt, kGt, decide_eq_true_eq] at hz); first | contradiction | omega))), look_nat (i := bI (kGt kk1 kn1) (l0.take k)) rfl (by (rw [bI_law (c := (kGt kk1 kn1)) (l := l0) (k := k) (by assumption) (by assumption)]; first | (rw [if_pos]; (first | assumption | (simp only [ltb, gtb, kLt, kGt, decide_eq_true_eq]; assumption) | (simp only [cg, ltb, gtb, kLt, kGt]; simp_all; done))) | (rw [if_neg]; intro hz; (try simp only [ltb, gtb, kLt, kGt, decide_eq_true_eq] at hz); first | contradiction | omega))), rfl, rfl, rfl, trivial⟩, by ((try clear S); (try clear E); first | assumption | omega | rfl | (simp; done) | (simp_all; done) | (simp [List.take_add_one, *]; done) | grind [List.take_add_one])⟩, by omega⟩
              · replace hc_24 := of_decide_eq_false hc_24
                refine WP_skip ?_
                refine T_n ?_
                refine WP_seq ?_
                refine WP_seq ?_
                refine WP_region ?_
                refine S_v E rfl (R_move E rfl) rfl ?_
                clear E a; intro a E
                refine S_v E rfl (R_move E rfl) rfl ?_
                clear E a; intro a E
                refine S_v E rfl (R_move E rfl) rfl ?_
                clear E a; intro a E
                obtain ⟨x_58, hx_58⟩ : ∃ x, (l0)[bI gtb (l0.take k)]? = some x := ⟨_, List.getElem?_eq_getElem (by first | omega | (simp; done) | (simp; omega) | (simp_all; omega))⟩
                obtain ⟨p_59, hp_59, qp_59⟩ := h0.at hx_58
                refine S_v E rfl (R_idx E rfl rfl T22 hp_59 rfl) rfl ?_
                clear E a; intro a E
                refine S_v E rfl (R_loadM E rfl Try.isAgg3 S.imm qp_59) rfl ?_
                clear E a; intro a E
                refine S_v E rfl (R_gtr E rfl rfl) rfl ?_
                clear E a; intro a E
                refine WL_nil ?_
                refine T_n ?_
                refine WP_cond E rfl (fun hc_60 => ?_) (fun hc_60 => ?_)
                · replace hc_60 := of_decide_eq_true hc_60
                  refine WP_region ?_
                  refine S_v E rfl (R_move E rfl) rfl ?_
                  clear E a; intro a E
                  refine S_v E rfl (R_assign E rfl) rfl ?_
                  clear E a; intro a E
                  refine WL_nil ?_
                  refine T_n ?_
                  refine WP_seq ?_
                  refine WP_seq ?_
                  have hb_1k60 := hb_1
                  have qp_21k60 := qp_21
                  have qp_23k60 := qp_23
                  have qp_59k60 := qp_59
                  have h0k60 := h0
                  replace S := S.mono_heap (w' := World.drew _) rfl
                  refine WP_drawn (C := fun x w => agree M_18 w) (bf := (fun i => [])) [0, 1, 3, 4, 5, 6, 7, 9] [0, 1, 3, 4, 5, 6, 7, 2, 8, 9] Try.mixed (by kernel_rfl) (fun x hq => S.imm) ?_
                  refine D_v E rfl rfl rfl (fun w hC => (R_loadGM E rfl (Try.isAgg24 _) (Try.sizeOf24 _) hC hb_1k60)) ?_
                  clear E a; intro a E
                  refine D_v E rfl rfl rfl (fun w hC => (R_move E rfl)) ?_
                  clear E a; intro a E
                  refine D_v E rfl rfl rfl (fun w hC => (R_loadGM E rfl (Try.isAgg24 _) (Try.sizeOf24 _) hC hb_1k60)) ?_
                  clear E a; intro a E
                  refine D_v E rfl rfl rfl (fun w hC => (R_move E rfl)) ?_
                  clear E a; intro a E
                  refine D_v E rfl rfl rfl (fun w hC => (R_move E rfl)) ?_
                  clear E a; intro a E
                  obtain ⟨x_61, hx_61⟩ : ∃ x, (l0)[bI (kLt kk1 kn1) (l0.take k)]? = some x := ⟨_, List.getElem?_eq_getElem (by first | omega | (simp; done) | (simp; omega) | (simp_all; omega))⟩
                  obtain ⟨p_62, hp_62, qp_62⟩ := h0.at hx_61
                  refine D_v E rfl rfl rfl (fun w hC => (R_idx E rfl rfl T22 hp_62 rfl)) ?_
                  clear E a; intro a E
                  refine D_v E rfl rfl rfl (fun w hC => (R_loadM E rfl Try.isAgg3 hC qp_62)) ?_
                  clear E a; intro a E
                  refine D_x rfl rfl rfl (X_pu E S rfl rfl rfl (laws_stands (by omega)) (Hp.le.refl _) ?_)
                  clear E a S; rintro a _ w M_63 hM_63 rfl S E
                  replace h0 := h0.le hM_63
                  replace hb_1 := hM_63.2 _ _ hb_1
                  replace hz_6 := hz_6.le hM_63
                  replace hv_10 := hv_10.le hM_63
                  refine ⟨fun x hq hb => (agree_le hM_63 S.imm), ?_⟩
                  refine D_x rfl rfl rfl (X_pu E S rfl rfl rfl (laws_stands (by omega)) (Hp.le.refl _) ?_)
                  clear E a S; rintro a _ w M_64 hM_64 rfl S E
                  replace h0 := h0.le hM_64
                  replace hb_1 := hM_64.2 _ _ hb_1
                  replace hz_6 := hz_6.le hM_64
                  replace hv_10 := hv_10.le hM_64
                  refine ⟨fun x hq hb => (agree_le (hM_63.trans hM_64) S.imm), ?_⟩
                  refine D_v E rfl rfl rfl (fun w hC => (R_lss E rfl rfl)) ?_
                  clear E a; intro a E
                  refine D_end (NoP_n ?_)
                  refine T_n ?_
                  refine WP_cond E rfl (fun hc_65 => ?_) (fun hc_65 => ?_)
                  · replace hc_65 := of_decide_eq_true hc_65
                    refine WP_region ?_
                    refine S_v E rfl (R_move E rfl) rfl ?_
                    clear E a; intro a E
                    refine S_v E rfl (R_assign E rfl) rfl ?_
                    clear E a; intro a E
                    refine WL_nil ?_
                    refine T_n ?_
                    refine WP_seq ?_
                    have hb_1k65 := hb_1
                    have qp_21k65 := qp_21
                    have qp_23k65 := qp_23
                    have qp_59k65 := qp_59
                    have qp_62k65 := qp_62
                    have h0k65 := h0
                    replace S := S.mono_heap (w' := World.drew _) rfl
                    refine WP_drawn (C := fun x w => agree M_64 w) (bf := (fun i => [])) [0, 1, 3, 4, 5, 6, 7, 9] [0, 1, 3, 4, 5, 6, 7, 2, 8, 9] Try.mixed (by kernel_rfl) (fun x hq => S.imm) ?_
                    refine D_v E rfl rfl rfl (fun w hC => (R_loadGM E rfl (Try.isAgg24 _) (Try.sizeOf24 _) hC hb_1k65)) ?_
                    clear E a; intro a E
                    refine D_v E rfl rfl rfl (fun w hC => (R_move E rfl)) ?_
                    clear E a; intro a E
                    refine D_v E rfl rfl rfl (fun w hC => (R_loadGM E rfl (Try.isAgg24 _) (Try.sizeOf24 _) hC hb_1k65)) ?_
                    clear E a; intro a E
                    refine D_v E rfl rfl rfl (fun w hC => (R_move E rfl)) ?_
                    clear E a; intro a E
                    refine D_v E rfl rfl rfl (fun w hC => (R_move E rfl)) ?_
                    clear E a; intro a E
                    obtain ⟨x_66, hx_66⟩ : ∃ x, (l0)[bI (kGt kk1 kn1) (l0.take k)]? = some x := ⟨_, List.getElem?_eq_getElem (by first | omega | (simp; done) | (simp; omega) | (simp_all; omega))⟩
                    obtain ⟨p_67, hp_67, qp_67⟩ := h0.at hx_66
                    refine D_v E rfl rfl rfl (fun w hC => (R_idx E rfl rfl T22 hp_67 rfl)) ?_
                    clear E a; intro a E
                    refine D_v E rfl rfl rfl (fun w hC => (R_loadM E rfl Try.isAgg3 hC qp_67)) ?_
                    clear E a; intro a E
                    refine D_x rfl rfl rfl (X_pu E S rfl rfl rfl (laws_stands (by omega)) (Hp.le.refl _) ?_)
                    clear E a S; rintro a _ w M_68 hM_68 rfl S E
                    replace h0 := h0.le hM_68
                    replace hb_1 := hM_68.2 _ _ hb_1
                    replace hz_6 := hz_6.le hM_68
                    replace hv_10 := hv_10.le hM_68
                    refine ⟨fun x hq hb => (agree_le hM_68 S.imm), ?_⟩
                    refine D_x rfl rfl rfl (X_pu E S rfl rfl rfl (laws_stands (by omega)) (Hp.le.refl _) ?_)
                    clear E a S; rintro a _ w M_69 hM_69 rfl S E
                    replace h0 := h0.le hM_69
                    replace hb_1 := hM_69.2 _ _ hb_1
                    replace hz_6 := hz_6.le hM_69
                    replace hv_10 := hv_10.le hM_69
                    refine ⟨fun x hq hb => (agree_le (hM_68.trans hM_69) S.imm), ?_⟩
                    refine D_v E rfl rfl rfl (fun w hC => (R_gtr E rfl rfl)) ?_
                    clear E a; intro a E
                    refine D_end (NoP_n ?_)
                    refine T_n ?_
                    refine WP_cond E rfl (fun hc_70 => ?_) (fun hc_70 => ?_)
                    · replace hc_70 := of_decide_eq_true hc_70
                      refine WP_region ?_
                      refine S_v E rfl (R_move E rfl) rfl ?_
                      clear E a; intro a E
                      refine S_v E rfl (R_assign E rfl) rfl ?_
                      clear E a; intro a E
                      refine WL_nil ?_
                      refine B_n ?_
                      refine T_n ?_
                      refine WP_region ?_
                      refine S_v E rfl (R_addx (m := ((k + 1 : Nat) : Int)) E rfl rfl (by omega) (by omega)) rfl ?_
                      clear E a; intro a E
                      refine S_v E rfl (R_move E rfl) rfl ?_
                      clear E a; intro a E
                      refine WL_nil ?_
                      refine T_n ?_
                      exact ⟨k + 1, ⟨M_69, (hM_18.trans (hM_63.trans (hM_64.trans (hM_68.trans hM_69)))), S, E.keep ⟨rfl, rfl, look_nat (i := bI ltb (l0.take k)) rfl (by (rw [bI_law (c := ltb) (l := l0) (k := k) (by assumption) (by assumption)]; first | (rw [if_pos]; (first | assumption | (simp only [ltb, gtb, kLt, kGt, decide_eq_true_eq]; assumption) | (simp only [cg, ltb, gtb, kLt, kGt]; simp_all; done))) | (rw [if_neg]; intro hz; (try simp only [ltb, gtb, kLt, kGt, decide_eq_true_eq] at hz); first | contradiction | omega))), look_nat (i := k) rfl (by (rw [bI_law (c := gtb) (l := l0) (k := k) (by assumption) (by assumption)]; first | (rw [if_pos]; (first | assumption | (simp only [ltb, gtb, kLt, kGt, decide_eq_true_eq]; assumption) | (simp only [cg, ltb, gtb, kLt, kGt]; simp_all; done))) | (rw [if_neg]; intro hz; (try simp only [ltb, gtb, kLt, kGt, decide_eq_true_eq] at hz); first | contradiction | omega))), look_nat (i := k) rfl (by (rw [bI_law (c := (kLt kk1 kn1)) (l := l0) (k := k) (by assumption) (by assumption)]; first | (rw [if_pos]; (first | assumption | (simp only [ltb, gtb, kLt, kGt, decide_eq_true_eq]; assumption) | (simp only [cg, ltb, gtb, kLt, kGt]; simp_all; done))) | (rw [if_neg]; intro hz; (try simp only [ltb, gtb, kLt, kGt, decide_eq_true_eq] at hz); first | contradiction | omega))), look_nat (i := k) rfl (by (rw [bI_law (c := (kGt kk1 kn1)) (l := l0) (k := k) (by assumption) (by assumption)]; first | (rw [if_pos]; (first | assumption | (simp only [ltb, gtb, kLt, kGt, decide_eq_true_eq]; assumption) | (simp only [cg, ltb, gtb, kLt, kGt]; simp_all; done))) | (rw [if_neg]; intro hz; (try simp only [ltb, gtb, kLt, kGt, decide_eq_true_eq] at hz); first | contradiction | omega))), rfl, rfl, rfl, trivial⟩, by ((try clear S); (try clear E); first | assumption | omega | rfl | (simp; done) | (simp_all; done) | (simp [List.take_add_one, *]; done) | grind [List.take_add_one])⟩, by omega⟩
                    · replace hc_70 := of_decide_eq_false hc_70
                      refine WP_skip ?_
                      refine B_n ?_
                      refine T_n ?_
                      refine WP_region ?_
                      refine S_v E rfl (R_addx (m := ((k + 1 : Nat) : Int)) E rfl rfl (by omega) (by omega)) rfl ?_
                      clear E a; intro a E
                      refine S_v E rfl (R_move E rfl) rfl ?_
                      clear E a; intro a E
                      refine WL_nil ?_
                      refine T_n ?_
                      exact ⟨k + 1, ⟨M_69, (hM_18.trans (hM_63.trans (hM_64.trans (hM_68.trans hM_69)))), S, E.keep ⟨rfl, rfl, look_nat (i := bI ltb (l0.take k)) rfl (by (rw [bI_law (c := ltb) (l := l0) (k := k) (by assumption) (by assumption)]; first | (rw [if_pos]; (first | assumption | (simp only [ltb, gtb, kLt, kGt, decide_eq_true_eq]; assumption) | (simp only [cg, ltb, gtb, kLt, kGt]; simp_all; done))) | (rw [if_neg]; intro hz; (try simp only [ltb, gtb, kLt, kGt, decide_eq_true_eq] at hz); first | contradiction | omega))), look_nat (i := k) rfl (by (rw [bI_law (c := gtb) (l := l0) (k := k) (by assumption) (by assumption)]; first | (rw [if_pos]; (first | assumption | (simp only [ltb, gtb, kLt, kGt, decide_eq_true_eq]; assumption) | (simp only [cg, ltb, gtb, kLt, kGt]; simp_all; done))) | (rw [if_neg]; intro hz; (try simp only [ltb, gtb, kLt, kGt, decide_eq_true_eq] at hz); first | contradiction | omega))), look_nat (i := k) rfl (by (rw [bI_law (c := (kLt kk1 kn1)) (l := l0) (k := k) (by assumption) (by assumption)]; first | (rw [if_pos]; (first | assumption | (simp only [ltb, gtb, kLt, kGt, decide_eq_true_eq]; assumption) | (simp only [cg, ltb, gtb, kLt, kGt]; simp_all; done))) | (rw [if_neg]; intro hz; (try simp only [ltb, gtb, kLt, kGt, decide_eq_true_eq] at hz); first | contradiction | omega))), look_nat (i := bI (kGt kk1 kn1) (l0.take k)) rfl (by (rw [bI_law (c := (kGt kk1 kn1)) (l := l0) (k := k) (by assumption) (by assumption)]; first | (rw [if_pos]; (first | assumption | (simp only [ltb, gtb, kLt, kGt, decide_eq_true_eq]; assumption) | (simp only [cg, ltb, gtb, kLt, kGt]; simp_all; done))) | (rw [if_neg]; intro hz; (try simp only [ltb, gtb, kLt, kGt, decide_eq_true_eq] at hz); first | contradiction | omega))), rfl, rfl, rfl, trivial⟩, by ((try clear S); (try clear E); first | assumption | omega | rfl | (simp; done) | (simp_all; done) | (simp [List.take_add_one, *]; done) | grind [List.take_add_one])⟩, by omega⟩
                  · replace hc_65 := of_decide_eq_false hc_65
                    refine WP_skip ?_
                    refine T_n ?_
                    refine WP_seq ?_
                    have hb_1k70 := hb_1
                    have qp_21k70 := qp_21
                    have qp_23k70 := qp_23
                    have qp_59k70 := qp_59
                    have qp_62k70 := qp_62
                    have h0k70 := h0
                    replace S := S.mono_heap (w' := World.drew _) rfl
                    refine WP_drawn (C := fun x w => agree M_64 w) (bf := (fun i => [])) [0, 1, 3, 4, 5, 6, 7, 9] [0, 1, 3, 4, 5, 6, 7, 2, 8, 9] Try.mixed (by kernel_rfl) (fun x hq => S.imm) ?_
                    refine D_v E rfl rfl rfl (fun w hC => (R_loadGM E rfl (Try.isAgg24 _) (Try.sizeOf24 _) hC hb_1k70)) ?_
                    clear E a; intro a E
                    refine D_v E rfl rfl rfl (fun w hC => (R_move E rfl)) ?_
                    clear E a; intro a E
                    refine D_v E rfl rfl rfl (fun w hC => (R_loadGM E rfl (Try.isAgg24 _) (Try.sizeOf24 _) hC hb_1k70)) ?_
                    clear E a; intro a E
                    refine D_v E rfl rfl rfl (fun w hC => (R_move E rfl)) ?_
                    clear E a; intro a E
                    refine D_v E rfl rfl rfl (fun w hC => (R_move E rfl)) ?_
                    clear E a; intro a E
                    obtain ⟨x_71, hx_71⟩ : ∃ x, (l0)[bI (kGt kk1 kn1) (l0.take k)]? = some x := ⟨_, List.getElem?_eq_getElem (by first | omega | (simp; done) | (simp; omega) | (simp_all; omega))⟩
                    obtain ⟨p_72, hp_72, qp_72⟩ := h0.at hx_71
                    refine D_v E rfl rfl rfl (fun w hC => (R_idx E rfl rfl T22 hp_72 rfl)) ?_
                    clear E a; intro a E
                    refine D_v E rfl rfl rfl (fun w hC => (R_loadM E rfl Try.isAgg3 hC qp_72)) ?_
                    clear E a; intro a E
                    refine D_x rfl rfl rfl (X_pu E S rfl rfl rfl (laws_stands (by omega)) (Hp.le.refl _) ?_)
                    clear E a S; rintro a _ w M_73 hM_73 rfl S E
                    replace h0 := h0.le hM_73
                    replace hb_1 := hM_73.2 _ _ hb_1
                    replace hz_6 := hz_6.le hM_73
                    replace hv_10 := hv_10.le hM_73
                    refine ⟨fun x hq hb => (agree_le hM_73 S.imm), ?_⟩
                    refine D_x rfl rfl rfl (X_pu E S rfl rfl rfl (laws_stands (by omega)) (Hp.le.refl _) ?_)
                    clear E a S; rintro a _ w M_74 hM_74 rfl S E
                    replace h0 := h0.le hM_74
                    replace hb_1 := hM_74.2 _ _ hb_1
                    replace hz_6 := hz_6.le hM_74
                    replace hv_10 := hv_10.le hM_74
                    refine ⟨fun x hq hb => (agree_le (hM_73.trans hM_74) S.imm), ?_⟩
                    refine D_v E rfl rfl rfl (fun w hC => (R_gtr E rfl rfl)) ?_
                    clear E a; intro a E
                    refine D_end (NoP_n ?_)
                    refine T_n ?_
                    refine WP_cond E rfl (fun hc_75 => ?_) (fun hc_75 => ?_)
                    · replace hc_75 := of_decide_eq_true hc_75
                      refine WP_region ?_
                      refine S_v E rfl (R_move E rfl) rfl ?_
                      clear E a; intro a E
                      refine S_v E rfl (R_assign E rfl) rfl ?_
                      clear E a; intro a E
                      refine WL_nil ?_
                      refine B_n ?_
                      refine T_n ?_
                      refine WP_region ?_
                      refine S_v E rfl (R_addx (m := ((k + 1 : Nat) : Int)) E rfl rfl (by omega) (by omega)) rfl ?_
                      clear E a; intro a E
                      refine S_v E rfl (R_move E rfl) rfl ?_
                      clear E a; intro a E
                      refine WL_nil ?_
                      refine T_n ?_
                      exact ⟨k + 1, ⟨M_74, (hM_18.trans (hM_63.trans (hM_64.trans (hM_73.trans hM_74)))), S, E.keep ⟨rfl, rfl, look_nat (i := bI ltb (l0.take k)) rfl (by (rw [bI_law (c := ltb) (l := l0) (k := k) (by assumption) (by assumption)]; first | (rw [if_pos]; (first | assumption | (simp only [ltb, gtb, kLt, kGt, decide_eq_true_eq]; assumption) | (simp only [cg, ltb, gtb, kLt, kGt]; simp_all; done))) | (rw [if_neg]; intro hz; (try simp only [ltb, gtb, kLt, kGt, decide_eq_true_eq] at hz); first | contradiction | omega))), look_nat (i := k) rfl (by (rw [bI_law (c := gtb) (l := l0) (k := k) (by assumption) (by assumption)]; first | (rw [if_pos]; (first | assumption | (simp only [ltb, gtb, kLt, kGt, decide_eq_true_eq]; assumption) | (simp only [cg, ltb, gtb, kLt, kGt]; simp_all; done))) | (rw [if_neg]; intro hz; (try simp only [ltb, gtb, kLt, kGt, decide_eq_true_eq] at hz); first | contradiction | omega))), look_nat (i := bI (kLt kk1 kn1) (l0.take k)) rfl (by (rw [bI_law (c := (kLt kk1 kn1)) (l := l0) (k := k) (by assumption) (by assumption)]; first | (rw [if_pos]; (first | assumption | (simp only [ltb, gtb, kLt, kGt, decide_eq_true_eq]; assumption) | (simp only [cg, ltb, gtb, kLt, kGt]; simp_all; done))) | (rw [if_neg]; intro hz; (try simp only [ltb, gtb, kLt, kGt, decide_eq_true_eq] at hz); first | contradiction | omega))), look_nat (i := k) rfl (by (rw [bI_law (c := (kGt kk1 kn1)) (l := l0) (k := k) (by assumption) (by assumption)]; first | (rw [if_pos]; (first | assumption | (simp only [ltb, gtb, kLt, kGt, decide_eq_true_eq]; assumption) | (simp only [cg, ltb, gtb, kLt, kGt]; simp_all; done))) | (rw [if_neg]; intro hz; (try simp only [ltb, gtb, kLt, kGt, decide_eq_true_eq] at hz); first | contradiction | omega))), rfl, rfl, rfl, trivial⟩, by ((try clear S); (try clear E); first | assumption | omega | rfl | (simp; done) | (simp_all; done) | (simp [List.take_add_one, *]; done) | grind [List.take_add_one])⟩, by omega⟩
                    · replace hc_75 := of_decide_eq_false hc_75
                      refine WP_skip ?_
                      refine B_n ?_
                      refine T_n ?_
                      refine WP_region ?_
                      refine S_v E rfl (R_addx (m := ((k + 1 : Nat) : Int)) E rfl rfl (by omega) (by omega)) rfl ?_
                      clear E a; intro a E
                      refine S_v E rfl (R_move E rfl) rfl ?_
                      clear E a; intro a E
                      refine WL_nil ?_
                      refine T_n ?_
                      exact ⟨k + 1, ⟨M_74, (hM_18.trans (hM_63.trans (hM_64.trans (hM_73.trans hM_74)))), S, E.keep ⟨rfl, rfl, look_nat (i := bI ltb (l0.take k)) rfl (by (rw [bI_law (c := ltb) (l := l0) (k := k) (by assumption) (by assumption)]; first | (rw [if_pos]; (first | assumption | (simp only [ltb, gtb, kLt, kGt, decide_eq_true_eq]; assumption) | (simp only [cg, ltb, gtb, kLt, kGt]; simp_all; done))) | (rw [if_neg]; intro hz; (try simp only [ltb, gtb, kLt, kGt, decide_eq_true_eq] at hz); first | contradiction | omega))), look_nat (i := k) rfl (by (rw [bI_law (c := gtb) (l := l0) (k := k) (by assumption) (by assumption)]; first | (rw [if_pos]; (first | assumption | (simp only [ltb, gtb, kLt, kGt, decide_eq_true_eq]; assumption) | (simp only [cg, ltb, gtb, kLt, kGt]; simp_all; done))) | (rw [if_neg]; intro hz; (try simp only [ltb, gtb, kLt, kGt, decide_eq_true_eq] at hz); first | contradiction | omega))), look_nat (i := bI (kLt kk1 kn1) (l0.take k)) rfl (by (rw [bI_law (c := (kLt kk1 kn1)) (l := l0) (k := k) (by assumption) (by assumption)]; first | (rw [if_pos]; (first | assumption | (simp only [ltb, gtb, kLt, kGt, decide_eq_true_eq]; assumption) | (simp only [cg, ltb, gtb, kLt, kGt]; simp_all; done))) | (rw [if_neg]; intro hz; (try simp only [ltb, gtb, kLt, kGt, decide_eq_true_eq] at hz); first | contradiction | omega))), look_nat (i := bI (kGt kk1 kn1) (l0.take k)) rfl (by (rw [bI_law (c := (kGt kk1 kn1)) (l := l0) (k := k) (by assumption) (by assumption)]; first | (rw [if_pos]; (first | assumption | (simp only [ltb, gtb, kLt, kGt, decide_eq_true_eq]; assumption) | (simp only [cg, ltb, gtb, kLt, kGt]; simp_all; done))) | (rw [if_neg]; intro hz; (try simp only [ltb, gtb, kLt, kGt, decide_eq_true_eq] at hz); first | contradiction | omega))), rfl, rfl, rfl, trivial⟩, by ((try clear S); (try clear E); first | assumption | omega | rfl | (simp; done) | (simp_all; done) | (simp [List.take_add_one, *]; done) | grind [List.take_add_one])⟩, by omega⟩
                · replace hc_60 := of_decide_eq_false hc_60
                  refine WP_skip ?_
                  refine T_n ?_
                  refine WP_seq ?_
                  refine WP_seq ?_
                  have hb_1k75 := hb_1
                  have qp_21k75 := qp_21
                  have qp_23k75 := qp_23
                  have qp_59k75 := qp_59
                  have h0k75 := h0
                  replace S := S.mono_heap (w' := World.drew _) rfl
                  refine WP_drawn (C := fun x w => agree M_18 w) (bf := (fun i => [])) [0, 1, 3, 4, 5, 6, 7, 9] [0, 1, 3, 4, 5, 6, 7, 2, 8, 9] Try.mixed (by kernel_rfl) (fun x hq => S.imm) ?_
                  refine D_v E rfl rfl rfl (fun w hC => (R_loadGM E rfl (Try.isAgg24 _) (Try.sizeOf24 _) hC hb_1k75)) ?_
                  clear E a; intro a E
                  refine D_v E rfl rfl rfl (fun w hC => (R_move E rfl)) ?_
                  clear E a; intro a E
                  refine D_v E rfl rfl rfl (fun w hC => (R_loadGM E rfl (Try.isAgg24 _) (Try.sizeOf24 _) hC hb_1k75)) ?_
                  clear E a; intro a E
                  refine D_v E rfl rfl rfl (fun w hC => (R_move E rfl)) ?_
                  clear E a; intro a E
                  refine D_v E rfl rfl rfl (fun w hC => (R_move E rfl)) ?_
                  clear E a; intro a E
                  obtain ⟨x_76, hx_76⟩ : ∃ x, (l0)[bI (kLt kk1 kn1) (l0.take k)]? = some x := ⟨_, List.getElem?_eq_getElem (by first | omega | (simp; done) | (simp; omega) | (simp_all; omega))⟩
                  obtain ⟨p_77, hp_77, qp_77⟩ := h0.at hx_76
                  refine D_v E rfl rfl rfl (fun w hC => (R_idx E rfl rfl T22 hp_77 rfl)) ?_
                  clear E a; intro a E
                  refine D_v E rfl rfl rfl (fun w hC => (R_loadM E rfl Try.isAgg3 hC qp_77)) ?_
                  clear E a; intro a E
                  refine D_x rfl rfl rfl (X_pu E S rfl rfl rfl (laws_stands (by omega)) (Hp.le.refl _) ?_)
                  clear E a S; rintro a _ w M_78 hM_78 rfl S E
                  replace h0 := h0.le hM_78
                  replace hb_1 := hM_78.2 _ _ hb_1
                  replace hz_6 := hz_6.le hM_78
                  replace hv_10 := hv_10.le hM_78
                  refine ⟨fun x hq hb => (agree_le hM_78 S.imm), ?_⟩
                  refine D_x rfl rfl rfl (X_pu E S rfl rfl rfl (laws_stands (by omega)) (Hp.le.refl _) ?_)
                  clear E a S; rintro a _ w M_79 hM_79 rfl S E
                  replace h0 := h0.le hM_79
                  replace hb_1 := hM_79.2 _ _ hb_1
                  replace hz_6 := hz_6.le hM_79
                  replace hv_10 := hv_10.le hM_79
                  refine ⟨fun x hq hb => (agree_le (hM_78.trans hM_79) S.imm), ?_⟩
                  refine D_v E rfl rfl rfl (fun w hC => (R_lss E rfl rfl)) ?_
                  clear E a; intro a E
                  refine D_end (NoP_n ?_)
                  refine T_n ?_
                  refine WP_cond E rfl (fun hc_80 => ?_) (fun hc_80 => ?_)
                  · replace hc_80 := of_decide_eq_true hc_80
                    refine WP_region ?_
                    refine S_v E rfl (R_move E rfl) rfl ?_
                    clear E a; intro a E
                    refine S_v E rfl (R_assign E rfl) rfl ?_
                    clear E a; intro a E
                    refine WL_nil ?_
                    refine T_n ?_
                    refine WP_seq ?_
                    have hb_1k80 := hb_1
                    have qp_21k80 := qp_21
                    have qp_23k80 := qp_23
                    have qp_59k80 := qp_59
                    have qp_77k80 := qp_77
                    have h0k80 := h0
                    replace S := S.mono_heap (w' := World.drew _) rfl
                    refine WP_drawn (C := fun x w => agree M_79 w) (bf := (fun i => [])) [0, 1, 3, 4, 5, 6, 7, 9] [0, 1, 3, 4, 5, 6, 7, 2, 8, 9] Try.mixed (by kernel_rfl) (fun x hq => S.imm) ?_
                    refine D_v E rfl rfl rfl (fun w hC => (R_loadGM E rfl (Try.isAgg24 _) (Try.sizeOf24 _) hC hb_1k80)) ?_
                    clear E a; intro a E
                    refine D_v E rfl rfl rfl (fun w hC => (R_move E rfl)) ?_
                    clear E a; intro a E
                    refine D_v E rfl rfl rfl (fun w hC => (R_loadGM E rfl (Try.isAgg24 _) (Try.sizeOf24 _) hC hb_1k80)) ?_
                    clear E a; intro a E
                    refine D_v E rfl rfl rfl (fun w hC => (R_move E rfl)) ?_
                    clear E a; intro a E
                    refine D_v E rfl rfl rfl (fun w hC => (R_move E rfl)) ?_
                    clear E a; intro a E
                    obtain ⟨x_81, hx_81⟩ : ∃ x, (l0)[bI (kGt kk1 kn1) (l0.take k)]? = some x := ⟨_, List.getElem?_eq_getElem (by first | omega | (simp; done) | (simp; omega) | (simp_all; omega))⟩
                    obtain ⟨p_82, hp_82, qp_82⟩ := h0.at hx_81
                    refine D_v E rfl rfl rfl (fun w hC => (R_idx E rfl rfl T22 hp_82 rfl)) ?_
                    clear E a; intro a E
                    refine D_v E rfl rfl rfl (fun w hC => (R_loadM E rfl Try.isAgg3 hC qp_82)) ?_
                    clear E a; intro a E
                    refine D_x rfl rfl rfl (X_pu E S rfl rfl rfl (laws_stands (by omega)) (Hp.le.refl _) ?_)
                    clear E a S; rintro a _ w M_83 hM_83 rfl S E
                    replace h0 := h0.le hM_83
                    replace hb_1 := hM_83.2 _ _ hb_1
                    replace hz_6 := hz_6.le hM_83
                    replace hv_10 := hv_10.le hM_83
                    refine ⟨fun x hq hb => (agree_le hM_83 S.imm), ?_⟩
                    refine D_x rfl rfl rfl (X_pu E S rfl rfl rfl (laws_stands (by omega)) (Hp.le.refl _) ?_)
                    clear E a S; rintro a _ w M_84 hM_84 rfl S E
                    replace h0 := h0.le hM_84
                    replace hb_1 := hM_84.2 _ _ hb_1
                    replace hz_6 := hz_6.le hM_84
                    replace hv_10 := hv_10.le hM_84
                    refine ⟨fun x hq hb => (agree_le (hM_83.trans hM_84) S.imm), ?_⟩
                    refine D_v E rfl rfl rfl (fun w hC => (R_gtr E rfl rfl)) ?_
                    clear E a; intro a E
                    refine D_end (NoP_n ?_)
                    refine T_n ?_
                    refine WP_cond E rfl (fun hc_85 => ?_) (fun hc_85 => ?_)
                    · replace hc_85 := of_decide_eq_true hc_85
                      refine WP_region ?_
                      refine S_v E rfl (R_move E rfl) rfl ?_
                      clear E a; intro a E
                      refine S_v E rfl (R_assign E rfl) rfl ?_
                      clear E a; intro a E
                      refine WL_nil ?_
                      refine B_n ?_
                      refine T_n ?_
                      refine WP_region ?_
                      refine S_v E rfl (R_addx (m := ((k + 1 : Nat) : Int)) E rfl rfl (by omega) (by omega)) rfl ?_
                      clear E a; intro a E
                      refine S_v E rfl (R_move E rfl) rfl ?_
                      clear E a; intro a E
                      refine WL_nil ?_
                      refine T_n ?_
                      exact ⟨k + 1, ⟨M_84, (hM_18.trans (hM_78.trans (hM_79.trans (hM_83.trans hM_84)))), S, E.keep ⟨rfl, rfl, look_nat (i := bI ltb (l0.take k)) rfl (by (rw [bI_law (c := ltb) (l := l0) (k := k) (by assumption) (by assumption)]; first | (rw [if_pos]; (first | assumption | (simp only [ltb, gtb, kLt, kGt, decide_eq_true_eq]; assumption) | (simp only [cg, ltb, gtb, kLt, kGt]; simp_all; done))) | (rw [if_neg]; intro hz; (try simp only [ltb, gtb, kLt, kGt, decide_eq_true_eq] at hz); first | contradiction | omega))), look_nat (i := bI gtb (l0.take k)) rfl (by (rw [bI_law (c := gtb) (l := l0) (k := k) (by assumption) (by assumption)]; first | (rw [if_pos]; (first | assumption | (simp only [ltb, gtb, kLt, kGt, decide_eq_true_eq]; assumption) | (simp only [cg, ltb, gtb, kLt, kGt]; simp_all; done))) | (rw [if_neg]; intro hz; (try simp only [ltb, gtb, kLt, kGt, decide_eq_true_eq] at hz); first | contradiction | omega))), look_nat (i := k) rfl (by (rw [bI_law (c := (kLt kk1 kn1)) (l := l0) (k := k) (by assumption) (by assumption)]; first | (rw [if_pos]; (first | assumption | (simp only [ltb, gtb, kLt, kGt, decide_eq_true_eq]; assumption) | (simp only [cg, ltb, gtb, kLt, kGt]; simp_all; done))) | (rw [if_neg]; intro hz; (try simp only [ltb, gtb, kLt, kGt, decide_eq_true_eq] at hz); first | contradiction | omega))), look_nat (i := k) rfl (by (rw [bI_law (c := (kGt kk1 kn1)) (l := l0) (k := k) (by assumption) (by assumption)]; first | (rw [if_pos]; (first | assumption | (simp only [ltb, gtb, kLt, kGt, decide_eq_true_eq]; assumption) | (simp only [cg, ltb, gtb, kLt, kGt]; simp_all; done))) | (rw [if_neg]; intro hz; (try simp only [ltb, gtb, kLt, kGt, decide_eq_true_eq] at hz); first | contradiction | omega))), rfl, rfl, rfl, trivial⟩, by ((try clear S); (try clear E); first | assumption | omega | rfl | (simp; done) | (simp_all; done) | (simp [List.take_add_one, *]; done) | grind [List.take_add_one])⟩, by omega⟩
                    · replace hc_85 := of_decide_eq_false hc_85
                      refine WP_skip ?_
                      refine B_n ?_
                      refine T_n ?_
                      refine WP_region ?_
                      refine S_v E rfl (R_addx (m := ((k + 1 : Nat) : Int)) E rfl rfl (by omega) (by omega)) rfl ?_
                      clear E a; intro a E
                      refine S_v E rfl (R_move E rfl) rfl ?_
                      clear E a; intro a E
                      refine WL_nil ?_
                      refine T_n ?_
                      exact ⟨k + 1, ⟨M_84, (hM_18.trans (hM_78.trans (hM_79.trans (hM_83.trans hM_84)))), S, E.keep ⟨rfl, rfl, look_nat (i := bI ltb (l0.take k)) rfl (by (rw [bI_law (c := ltb) (l := l0) (k := k) (by assumption) (by assumption)]; first | (rw [if_pos]; (first | assumption | (simp only [ltb, gtb, kLt, kGt, decide_eq_true_eq]; assumption) | (simp only [cg, ltb, gtb, kLt, kGt]; simp_all; done))) | (rw [if_neg]; intro hz; (try simp only [ltb, gtb, kLt, kGt, decide_eq_true_eq] at hz); first | contradiction | omega))), look_nat (i := bI gtb (l0.take k)) rfl (by (rw [bI_law (c := gtb) (l := l0) (k := k) (by assumption) (by assumption)]; first | (rw [if_pos]; (first | assumption | (simp only [ltb, gtb, kLt, kGt, decide_eq_true_eq]; assumption) | (simp only [cg, ltb, gtb, kLt, kGt]; simp_all; done))) | (rw [if_neg]; intro hz; (try simp only [ltb, gtb, kLt, kGt, decide_eq_true_eq] at hz); first | contradiction | omega))), look_nat (i := k) rfl (by (rw [bI_law (c := (kLt kk1 kn1)) (l := l0) (k := k) (by assumption) (by assumption)]; first | (rw [if_pos]; (first | assumption | (simp only [ltb, gtb, kLt, kGt, decide_eq_true_eq]; assumption) | (simp only [cg, ltb, gtb, kLt, kGt]; simp_all; done))) | (rw [if_neg]; intro hz; (try simp only [ltb, gtb, kLt, kGt, decide_eq_true_eq] at hz); first | contradiction | omega))), look_nat (i := bI (kGt kk1 kn1) (l0.take k)) rfl (by (rw [bI_law (c := (kGt kk1 kn1)) (l := l0) (k := k) (by assumption) (by assumption)]; first | (rw [if_pos]; (first | assumption | (simp only [ltb, gtb, kLt, kGt, decide_eq_true_eq]; assumption) | (simp only [cg, ltb, gtb, kLt, kGt]; simp_all; done))) | (rw [if_neg]; intro hz; (try simp only [ltb, gtb, kLt, kGt, decide_eq_true_eq] at hz); first | contradiction | omega))), rfl, rfl, rfl, trivial⟩, by ((try clear S); (try clear E); first | assumption | omega | rfl | (simp; done) | (simp_all; done) | (simp [List.take_add_one, *]; done) | grind [List.take_add_one])⟩, by omega⟩
                  · replace hc_80 := of_decide_eq_false hc_80
                    refine WP_skip ?_
                    refine T_n ?_
                    refine WP_seq ?_
                    have hb_1k85 := hb_1
                    have qp_21k85 := qp_21
                    have qp_23k85 := qp_23
                    have qp_59k85 := qp_59
                    have qp_77k85 := qp_77
                    have h0k85 := h0
                    replace S := S.mono_heap (w' := World.drew _) rfl
                    refine WP_drawn (C := fun x w => agree M_79 w) (bf := (fun i => [])) [0, 1, 3, 4, 5, 6, 7, 9] [0, 1, 3, 4, 5, 6, 7, 2, 8, 9] Try.mixed (by kernel_rfl) (fun x hq => S.imm) ?_
                    refine D_v E rfl rfl rfl (fun w hC => (R_loadGM E rfl (Try.isAgg24 _) (Try.sizeOf24 _) hC hb_1k85)) ?_
                    clear E a; intro a E
                    refine D_v E rfl rfl rfl (fun w hC => (R_move E rfl)) ?_
                    clear E a; intro a E
                    refine D_v E rfl rfl rfl (fun w hC => (R_loadGM E rfl (Try.isAgg24 _) (Try.sizeOf24 _) hC hb_1k85)) ?_
                    clear E a; intro a E
                    refine D_v E rfl rfl rfl (fun w hC => (R_move E rfl)) ?_
                    clear E a; intro a E
                    refine D_v E rfl rfl rfl (fun w hC => (R_move E rfl)) ?_
                    clear E a; intro a E
                    obtain ⟨x_86, hx_86⟩ : ∃ x, (l0)[bI (kGt kk1 kn1) (l0.take k)]? = some x := ⟨_, List.getElem?_eq_getElem (by first | omega | (simp; done) | (simp; omega) | (simp_all; omega))⟩
                    obtain ⟨p_87, hp_87, qp_87⟩ := h0.at hx_86
                    refine D_v E rfl rfl rfl (fun w hC => (R_idx E rfl rfl T22 hp_87 rfl)) ?_
                    clear E a; intro a E
                    refine D_v E rfl rfl rfl (fun w hC => (R_loadM E rfl Try.isAgg3 hC qp_87)) ?_
                    clear E a; intro a E
                    refine D_x rfl rfl rfl (X_pu E S rfl rfl rfl (laws_stands (by omega)) (Hp.le.refl _) ?_)
                    clear E a S; rintro a _ w M_88 hM_88 rfl S E
                    replace h0 := h0.le hM_88
                    replace hb_1 := hM_88.2 _ _ hb_1
                    replace hz_6 := hz_6.le hM_88
                    replace hv_10 := hv_10.le hM_88
                    refine ⟨fun x hq hb => (agree_le hM_88 S.imm), ?_⟩
                    refine D_x rfl rfl rfl (X_pu E S rfl rfl rfl (laws_stands (by omega)) (Hp.le.refl _) ?_)
                    clear E a S; rintro a _ w M_89 hM_89 rfl S E
                    replace h0 := h0.le hM_89
                    replace hb_1 := hM_89.2 _ _ hb_1
                    replace hz_6 := hz_6.le hM_89
                    replace hv_10 := hv_10.le hM_89
                    refine ⟨fun x hq hb => (agree_le (hM_88.trans hM_89) S.imm), ?_⟩
                    refine D_v E rfl rfl rfl (fun w hC => (R_gtr E rfl rfl)) ?_
                    clear E a; intro a E
                    refine D_end (NoP_n ?_)
                    refine T_n ?_
                    refine WP_cond E rfl (fun hc_90 => ?_) (fun hc_90 => ?_)
                    · replace hc_90 := of_decide_eq_true hc_90
                      refine WP_region ?_
                      refine S_v E rfl (R_move E rfl) rfl ?_
                      clear E a; intro a E
                      refine S_v E rfl (R_assign E rfl) rfl ?_
                      clear E a; intro a E
                      refine WL_nil ?_
                      refine B_n ?_
                      refine T_n ?_
                      refine WP_region ?_
                      refine S_v E rfl (R_addx (m := ((k + 1 : Nat) : Int)) E rfl rfl (by omega) (by omega)) rfl ?_
                      clear E a; intro a E
                      refine S_v E rfl (R_move E rfl) rfl ?_
                      clear E a; intro a E
                      refine WL_nil ?_
                      refine T_n ?_
                      exact ⟨k + 1, ⟨M_89, (hM_18.trans (hM_78.trans (hM_79.trans (hM_88.trans hM_89)))), S, E.keep ⟨rfl, rfl, look_nat (i := bI ltb (l0.take k)) rfl (by (rw [bI_law (c := ltb) (l := l0) (k := k) (by assumption) (by assumption)]; first | (rw [if_pos]; (first | assumption | (simp only [ltb, gtb, kLt, kGt, decide_eq_true_eq]; assumption) | (simp only [cg, ltb, gtb, kLt, kGt]; simp_all; done))) | (rw [if_neg]; intro hz; (try simp only [ltb, gtb, kLt, kGt, decide_eq_true_eq] at hz); first | contradiction | omega))), look_nat (i := bI gtb (l0.take k)) rfl (by (rw [bI_law (c := gtb) (l := l0) (k := k) (by assumption) (by assumption)]; first | (rw [if_pos]; (first | assumption | (simp only [ltb, gtb, kLt, kGt, decide_eq_true_eq]; assumption) | (simp only [cg, ltb, gtb, kLt, kGt]; simp_all; done))) | (rw [if_neg]; intro hz; (try simp only [ltb, gtb, kLt, kGt, decide_eq_true_eq] at hz); first | contradiction | omega))), look_nat (i := bI (kLt kk1 kn1) (l0.take k)) rfl (by (rw [bI_law (c := (kLt kk1 kn1)) (l := l0) (k := k) (by assumption) (by assumption)]; first | (rw [if_pos]; (first | assumption | (simp only [ltb, gtb, kLt, kGt, decide_eq_true_eq]; assumption) | (simp only [cg, ltb, gtb, kLt, kGt]; simp_all; done))) | (rw [if_neg]; intro hz; (try simp only [ltb, gtb, kLt, kGt, decide_eq_true_eq] at hz); first | contradiction | omega))), look_nat (i := k) rfl (by (rw [bI_law (c := (kGt kk1 kn1)) (l := l0) (k := k) (by assumption) (by assumption)]; first | (rw [if_pos]; (first | assumption | (simp only [ltb, gtb, kLt, kGt, decide_eq_true_eq]; assumption) | (simp only [cg, ltb, gtb, kLt, kGt]; simp_all; done))) | (rw [if_neg]; intro hz; (try simp only [ltb, gtb, kLt, kGt, decide_eq_true_eq] at hz); first | contradiction | omega))), rfl, rfl, rfl, trivial⟩, by ((try clear S); (try clear E); first | assumption | omega | rfl | (simp; done) | (simp_all; done) | (simp [List.take_add_one, *]; done) | grind [List.take_add_one])⟩, by omega⟩
                    · replace hc_90 := of_decide_eq_false hc_90
                      refine WP_skip ?_
                      refine B_n ?_
                      refine T_n ?_
                      refine WP_region ?_
                      refine S_v E rfl (R_addx (m := ((k + 1 : Nat) : Int)) E rfl rfl (by omega) (by omega)) rfl ?_
                      clear E a; intro a E
                      refine S_v E rfl (R_move E rfl) rfl ?_
                      clear E a; intro a E
                      refine WL_nil ?_
                      refine T_n ?_
                      exact ⟨k + 1, ⟨M_89, (hM_18.trans (hM_78.trans (hM_79.trans (hM_88.trans hM_89)))), S, E.keep ⟨rfl, rfl, look_nat (i := bI ltb (l0.take k)) rfl (by (rw [bI_law (c := ltb) (l := l0) (k := k) (by assumption) (by assumption)]; first | (rw [if_pos]; (first | assumption | (simp only [ltb, gtb, kLt, kGt, decide_eq_true_eq]; assumption) | (simp only [cg, ltb, gtb, kLt, kGt]; simp_all; done))) | (rw [if_neg]; intro hz; (try simp only [ltb, gtb, kLt, kGt, decide_eq_true_eq] at hz); first | contradiction | omega))), look_nat (i := bI gtb (l0.take k)) rfl (by (rw [bI_law (c := gtb) (l := l0) (k := k) (by assumption) (by assumption)]; first | (rw [if_pos]; (first | assumption | (simp only [ltb, gtb, kLt, kGt, decide_eq_true_eq]; assumption) | (simp only [cg, ltb, gtb, kLt, kGt]; simp_all; done))) | (rw [if_neg]; intro hz; (try simp only [ltb, gtb, kLt, kGt, decide_eq_true_eq] at hz); first | contradiction | omega))), look_nat (i := bI (kLt kk1 kn1) (l0.take k)) rfl (by (rw [bI_law (c := (kLt kk1 kn1)) (l := l0) (k := k) (by assumption) (by assumption)]; first | (rw [if_pos]; (first | assumption | (simp only [ltb, gtb, kLt, kGt, decide_eq_true_eq]; assumption) | (simp only [cg, ltb, gtb, kLt, kGt]; simp_all; done))) | (rw [if_neg]; intro hz; (try simp only [ltb, gtb, kLt, kGt, decide_eq_true_eq] at hz); first | contradiction | omega))), look_nat (i := bI (kGt kk1 kn1) (l0.take k)) rfl (by (rw [bI_law (c := (kGt kk1 kn1)) (l := l0) (k := k) (by assumption) (by assumption)]; first | (rw [if_pos]; (first | assumption | (simp only [ltb, gtb, kLt, kGt, decide_eq_true_eq]; assumption) | (simp only [cg, ltb, gtb, kLt, kGt]; simp_all; done))) | (rw [if_neg]; intro hz; (try simp only [ltb, gtb, kLt, kGt, decide_eq_true_eq] at hz); first | contradiction | omega))), rfl, rfl, rfl, trivial⟩, by ((try clear S); (try clear E); first | assumption | omega | rfl | (simp; done) | (simp_all; done) | (simp [List.take_add_one, *]; done) | grind [List.take_add_one])⟩, by omega⟩
            · replace hc_19 := of_decide_eq_false hc_19
              have etk : l0.take k = l0 := List.take_of_length_le (by omega)
              obtain ⟨hq7, hb7, hj7⟩ := bFacts ltb etk (by assumption)
              obtain ⟨hq8, hb8, hj8⟩ := bFacts gtb etk (by assumption)
              obtain ⟨hq9, hb9, hj9⟩ := bFacts (kLt kk1 kn1) etk (by assumption)
              obtain ⟨hq10, hb10, hj10⟩ := bFacts (kGt kk1 kn1) etk (by assumption)
              have hmin := bV_min _ l0 rfl
              have hmax := bV_max _ l0 rfl
              refine WP_exit ?_
              refine T_x ?_
              refine T_x ?_
              refine B_x ?_
              refine T_n ?_
              refine WP_seq ?_
              refine WP_region ?_
              refine S_v E rfl (R_move E rfl) rfl ?_
              clear E a; intro a E
              refine S_x (X_pu E S rfl rfl rfl (impl_MinIndex h0) (Hp.le.refl _) ?_)
              clear E a S; rintro a _ w M_91 hM_91 rfl S E
              replace h0 := h0.le hM_91
              replace hb_1 := hM_91.2 _ _ hb_1
              replace hz_6 := hz_6.le hM_91
              replace hv_10 := hv_10.le hM_91
              refine S_v E rfl (R_move E rfl) rfl ?_
              clear E a; intro a E
              refine S_v E rfl (R_extract E rfl rfl) rfl ?_
              clear E a; intro a E
              refine S_v E rfl (R_extract E rfl rfl) rfl ?_
              clear E a; intro a E
              refine S_v E rfl (R_assign E rfl) rfl ?_
              clear E a; intro a E
              refine S_v E rfl (R_assign E rfl) rfl ?_
              clear E a; intro a E
              refine WL_nil ?_
              refine T_n ?_
              refine WP_seq ?_
              refine WP_region ?_
              refine S_v E rfl (R_move E rfl) rfl ?_
              clear E a; intro a E
              refine S_x (X_pu E S rfl rfl rfl (impl_MaxIndex h0) (Hp.le.refl _) ?_)
              clear E a S; rintro a _ w M_92 hM_92 rfl S E
              replace h0 := h0.le hM_92
              replace hb_1 := hM_92.2 _ _ hb_1
              replace hz_6 := hz_6.le hM_92
              replace hv_10 := hv_10.le hM_92
              refine S_v E rfl (R_move E rfl) rfl ?_
              clear E a; intro a E
              refine S_v E rfl (R_extract E rfl rfl) rfl ?_
              clear E a; intro a E
              refine S_v E rfl (R_extract E rfl rfl) rfl ?_
              clear E a; intro a E
              refine S_v E rfl (R_assign E rfl) rfl ?_
              clear E a; intro a E
              refine S_v E rfl (R_assign E rfl) rfl ?_
              clear E a; intro a E
              refine WL_nil ?_
              refine T_n ?_
              refine WP_seq ?_
              refine WP_region ?_
              refine S_v E rfl (R_move E rfl) rfl ?_
              clear E a; intro a E
              refine S_x (X_pu E S rfl rfl rfl (impl_MinIndexSeq h0 (by (first | omega | (simp; omega) | (simp; done) | (simp_all; omega) | grind))) (Hp.le.refl _) ?_)
              clear E a S; rintro a _ w M_93 hM_93 rfl S E
              replace h0 := h0.le hM_93
              replace hb_1 := hM_93.2 _ _ hb_1
              replace hz_6 := hz_6.le hM_93
              replace hv_10 := hv_10.le hM_93
              refine S_v E rfl (R_move E rfl) rfl ?_
              clear E a; intro a E
              refine S_v E rfl (R_extract E rfl rfl) rfl ?_
              clear E a; intro a E
              refine S_v E rfl (R_extract E rfl rfl) rfl ?_
              clear E a; intro a E
              refine S_v E rfl (R_assign E rfl) rfl ?_
              clear E a; intro a E
              refine S_v E rfl (R_assign E rfl) rfl ?_
              clear E a; intro a E
              refine WL_nil ?_
              refine T_n ?_
              refine WP_seq ?_
              refine WP_region ?_
              refine S_v E rfl (R_move E rfl) rfl ?_
              clear E a; intro a E
              refine S_x (X_pu E S rfl rfl rfl (impl_MaxIndexSeq h0 (by (first | omega | (simp; omega) | (simp; done) | (simp_all; omega) | grind))) (Hp.le.refl _) ?_)
              clear E a S; rintro a _ w M_94 hM_94 rfl S E
              replace h0 := h0.le hM_94
              replace hb_1 := hM_94.2 _ _ hb_1
              replace hz_6 := hz_6.le hM_94
              replace hv_10 := hv_10.le hM_94
              refine S_v E rfl (R_move E rfl) rfl ?_
              clear E a; intro a E
              refine S_v E rfl (R_extract E rfl rfl) rfl ?_
              clear E a; intro a E
              refine S_v E rfl (R_extract E rfl rfl) rfl ?_
              clear E a; intro a E
              refine S_v E rfl (R_assign E rfl) rfl ?_
              clear E a; intro a E
              refine S_v E rfl (R_assign E rfl) rfl ?_
              clear E a; intro a E
              refine WL_nil ?_
              refine T_n ?_
              refine WP_seq ?_
              refine WP_region ?_
              refine S_v E rfl (R_move E rfl) rfl ?_
              clear E a; intro a E
              refine S_x (X_pu E S rfl rfl rfl (spec_MinIndex h0 (by first | assumption | exact (fun x hx => by rcases List.mem_append.1 hx with h | h; exact hr0 x h; exact hr1 x h)) (by (first | omega | (simp; omega) | (simp; done) | (simp_all; omega) | grind))) (Hp.le.refl _) ?_)
              clear E a S; rintro a _ w M_95 hM_95 rfl S E
              replace h0 := h0.le hM_95
              replace hb_1 := hM_95.2 _ _ hb_1
              replace hz_6 := hz_6.le hM_95
              replace hv_10 := hv_10.le hM_95
              refine S_v E rfl (R_move E rfl) rfl ?_
              clear E a; intro a E
              refine S_v E rfl (R_extract E rfl rfl) rfl ?_
              clear E a; intro a E
              refine S_v E rfl (R_extract E rfl rfl) rfl ?_
              clear E a; intro a E
              refine S_v E rfl (R_assign E rfl) rfl ?_
              clear E a; intro a E
              refine S_v E rfl (R_assign E rfl) rfl ?_
              clear E a; intro a E
              refine WL_nil ?_
              refine T_n ?_
              refine WP_seq ?_
              refine WP_region ?_
              refine S_v E rfl (R_move E rfl) rfl ?_
              clear E a; intro a E
              refine S_x (X_pu E S rfl rfl rfl (spec_MaxIndex h0 (by first | assumption | exact (fun x hx => by rcases List.mem_append.1 hx with h | h; exact hr0 x h; exact hr1 x h)) (by (first | omega | (simp; omega) | (simp; done) | (simp_all; omega) | grind))) (Hp.le.refl _) ?_)
              clear E a S; rintro a _ w M_96 hM_96 rfl S E
              replace h0 := h0.le hM_96
              replace hb_1 := hM_96.2 _ _ hb_1
              replace hz_6 := hz_6.le hM_96
              replace hv_10 := hv_10.le hM_96
              refine S_v E rfl (R_move E rfl) rfl ?_
              clear E a; intro a E
              refine S_v E rfl (R_extract E rfl rfl) rfl ?_
              clear E a; intro a E
              refine S_v E rfl (R_extract E rfl rfl) rfl ?_
              clear E a; intro a E
              refine S_v E rfl (R_assign E rfl) rfl ?_
              clear E a; intro a E
              refine S_v E rfl (R_assign E rfl) rfl ?_
              clear E a; intro a E
              refine WL_nil ?_
              refine T_n ?_
              refine WP_seq ?_
              refine WP_seq ?_
              have hb_1k96 := hb_1
              have h0k96 := h0
              replace S := S.mono_heap (w' := World.drew _) rfl
              refine WP_drawn (C := fun x w => agree M_96 w) (bf := (fun i => [])) [0, 1, 2, 3, 4, 5, 6, 7, 8, 9, 10, 11, 12, 13, 14, 15, 16, 17, 18, 19, 20, 22, 23, 24, 25, 26, 27, 28, 29, 30, 32, 33, 34, 35, 36, 37] [0, 1, 2, 3, 4, 5, 6, 7, 8, 9, 10, 11, 12, 13, 14, 15, 16, 17, 18, 19, 20, 22, 23, 24, 25, 21, 26, 27, 28, 29, 30, 32, 33, 34, 35, 31, 36, 37] Try.mixed (by kernel_rfl) (fun x hq => S.imm) ?_
              refine D_v E rfl rfl rfl (fun w hC => (R_move E rfl)) ?_
              clear E a; intro a E
              refine D_v E rfl rfl rfl (fun w hC => (R_move E rfl)) ?_
              clear E a; intro a E
              refine D_v E rfl rfl rfl (fun w hC => (R_neq E rfl rfl)) ?_
              clear E a; intro a E
              refine D_v E rfl rfl rfl (fun w hC => (R_move E rfl)) ?_
              clear E a; intro a E
              have hc_97 : (decide (bV ltb l0 ≠ bV ltb l0)) = false := by (clear S E; first | (simp; done) | (simp [hj7, hj8]; done) | (rw [← Option.some.inj (hb7.trans (by assumption))]; simp; done) | (simp [← Option.some.inj (hb7.trans (by assumption))]; done) | (rw [← Option.some.inj (hb8.trans (by assumption))]; simp; done) | (simp [← Option.some.inj (hb8.trans (by assumption))]; done) | (rw [← Option.some.inj (hb9.trans (by assumption))]; simp; done) | (simp [← Option.some.inj (hb9.trans (by assumption))]; done) | (rw [← Option.some.inj (hb10.trans (by assumption))]; simp; done) | (simp [← Option.some.inj (hb10.trans (by assumption))]; done) | (rw [if_neg (hmin _ (List.mem_of_getElem? (by assumption))), if_neg (hmax _ (List.mem_of_getElem? (by assumption)))]; simp; done))
              replace E := E.val (t := 134) rfl hc_97
              replace E := E.val (t := 135) rfl hc_97
              refine D_vyes E rfl rfl rfl rfl rfl (fun w hC => (R_move E rfl)) ?_
              clear E a; intro a E
              refine D_vyes E rfl rfl rfl rfl rfl (fun w hC => (R_move E rfl)) ?_
              clear E a; intro a E
              refine D_vyes E rfl rfl rfl rfl rfl (fun w hC => (R_neq E rfl rfl)) ?_
              clear E a; intro a E
              refine D_v E rfl rfl rfl (fun w hC => (R_pickF E rfl rfl)) ?_
              clear E a; intro a E
              refine D_v E rfl rfl rfl (fun w hC => (R_move E rfl)) ?_
              clear E a; intro a E
              have hc_98 : (decide (bJ ltb l0 ≠ ((bI ltb (l0.take k) : Nat) : Int))) = false := by (clear S E; first | (simp; done) | (simp [hj7, hj8]; done) | (rw [← Option.some.inj (hb7.trans (by assumption))]; simp; done) | (simp [← Option.some.inj (hb7.trans (by assumption))]; done) | (rw [← Option.some.inj (hb8.trans (by assumption))]; simp; done) | (simp [← Option.some.inj (hb8.trans (by assumption))]; done) | (rw [← Option.some.inj (hb9.trans (by assumption))]; simp; done) | (simp [← Option.some.inj (hb9.trans (by assumption))]; done) | (rw [← Option.some.inj (hb10.trans (by assumption))]; simp; done) | (simp [← Option.some.inj (hb10.trans (by assumption))]; done) | (rw [if_neg (hmin _ (List.mem_of_getElem? (by assumption))), if_neg (hmax _ (List.mem_of_getElem? (by assumption)))]; simp; done))
              replace E := E.val (t := 138) rfl hc_98
              replace E := E.val (t := 139) rfl hc_98
              replace E := E.val (t := 140) rfl hc_98
              refine D_vyes E rfl rfl rfl rfl rfl (fun w hC => (R_move E rfl)) ?_
              clear E a; intro a E
              refine D_vyes E rfl rfl rfl rfl rfl (fun w hC => (R_move E rfl)) ?_
              clear E a; intro a E
              refine D_vyes E rfl rfl rfl rfl rfl (fun w hC => (R_neq E rfl rfl)) ?_
              clear E a; intro a E
              refine D_v E rfl rfl rfl (fun w hC => (R_pickF E rfl rfl)) ?_
              clear E a; intro a E
              refine D_v E rfl rfl rfl (fun w hC => (R_move E rfl)) ?_
              clear E a; intro a E
              have hc_99 : (decide (bV gtb l0 ≠ bV gtb l0)) = false := by (clear S E; first | (simp; done) | (simp [hj7, hj8]; done) | (rw [← Option.some.inj (hb7.trans (by assumption))]; simp; done) | (simp [← Option.some.inj (hb7.trans (by assumption))]; done) | (rw [← Option.some.inj (hb8.trans (by assumption))]; simp; done) | (simp [← Option.some.inj (hb8.trans (by assumption))]; done) | (rw [← Option.some.inj (hb9.trans (by assumption))]; simp; done) | (simp [← Option.some.inj (hb9.trans (by assumption))]; done) | (rw [← Option.some.inj (hb10.trans (by assumption))]; simp; done) | (simp [← Option.some.inj (hb10.trans (by assumption))]; done) | (rw [if_neg (hmin _ (List.mem_of_getElem? (by assumption))), if_neg (hmax _ (List.mem_of_getElem? (by assumption)))]; simp; done))
              replace E := E.val (t := 143) rfl hc_99
              replace E := E.val (t := 144) rfl hc_99
              replace E := E.val (t := 145) rfl hc_99
              refine D_vyes E rfl rfl rfl rfl rfl (fun w hC => (R_move E rfl)) ?_
              clear E a; intro a E
              refine D_vyes E rfl rfl rfl rfl rfl (fun w hC => (R_move E rfl)) ?_
              clear E a; intro a E
              refine D_vyes E rfl rfl rfl rfl rfl (fun w hC => (R_neq E rfl rfl)) ?_
              clear E a; intro a E
              refine D_v E rfl rfl rfl (fun w hC => (R_pickF E rfl rfl)) ?_
              clear E a; intro a E
              refine D_v E rfl rfl rfl (fun w hC => (R_move E rfl)) ?_
              clear E a; intro a E
              have hc_100 : (decide (bJ gtb l0 ≠ ((bI gtb (l0.take k) : Nat) : Int))) = false := by (clear S E; first | (simp; done) | (simp [hj7, hj8]; done) | (rw [← Option.some.inj (hb7.trans (by assumption))]; simp; done) | (simp [← Option.some.inj (hb7.trans (by assumption))]; done) | (rw [← Option.some.inj (hb8.trans (by assumption))]; simp; done) | (simp [← Option.some.inj (hb8.trans (by assumption))]; done) | (rw [← Option.some.inj (hb9.trans (by assumption))]; simp; done) | (simp [← Option.some.inj (hb9.trans (by assumption))]; done) | (rw [← Option.some.inj (hb10.trans (by assumption))]; simp; done) | (simp [← Option.some.inj (hb10.trans (by assumption))]; done) | (rw [if_neg (hmin _ (List.mem_of_getElem? (by assumption))), if_neg (hmax _ (List.mem_of_getElem? (by assumption)))]; simp; done))
              replace E := E.val (t := 148) rfl hc_100
              replace E := E.val (t := 149) rfl hc_100
              replace E := E.val (t := 150) rfl hc_100
              refine D_vyes E rfl rfl rfl rfl rfl (fun w hC => (R_move E rfl)) ?_
              clear E a; intro a E
              refine D_vyes E rfl rfl rfl rfl rfl (fun w hC => (R_loadGM E rfl (Try.isAgg24 _) (Try.sizeOf24 _) hC hb_1k96)) ?_
              clear E a; intro a E
              refine D_vyes E rfl rfl rfl rfl rfl (fun w hC => (R_move E rfl)) ?_
              clear E a; intro a E
              refine D_vyes E rfl rfl rfl rfl rfl (fun w hC => (R_move E rfl)) ?_
              clear E a; intro a E
              obtain ⟨x_101, hx_101⟩ : ∃ x, (l0)[bI (kLt kk1 kn1) (l0.take k)]? = some x := ⟨_, List.getElem?_eq_getElem (by first | omega | (simp; done) | (simp; omega) | (simp_all; omega))⟩
              obtain ⟨p_102, hp_102, qp_102⟩ := h0.at hx_101
              refine D_vyes E rfl rfl rfl rfl rfl (fun w hC => (R_idx E rfl rfl T22 hp_102 rfl)) ?_
              clear E a; intro a E
              refine D_vyes E rfl rfl rfl rfl rfl (fun w hC => (R_loadM E rfl Try.isAgg3 hC qp_102)) ?_
              clear E a; intro a E
              refine D_yes E rfl rfl rfl rfl (X_pu E S rfl rfl rfl (spec_MinBy h0 (by omega) (by first | assumption | exact (fun x hx => by rcases List.mem_append.1 hx with h | h; exact hr0 x h; exact hr1 x h)) (by (first | omega | (simp; omega) | (simp; done) | (simp_all; omega) | grind))) (Hp.le.refl _) ?_)
              clear E a S; rintro a _ w M_103 hM_103 rfl S E
              replace h0 := h0.le hM_103
              replace hb_1 := hM_103.2 _ _ hb_1
              replace hz_6 := hz_6.le hM_103
              replace hv_10 := hv_10.le hM_103
              refine ⟨fun x hq hb => (agree_le hM_103 S.imm), ?_⟩
              refine D_vyes E rfl rfl rfl rfl rfl (fun w hC => (R_neq E rfl rfl)) ?_
              clear E a; intro a E
              refine D_v E rfl rfl rfl (fun w hC => (R_pickF E rfl rfl)) ?_
              clear E a; intro a E
              refine D_v E rfl rfl rfl (fun w hC => (R_move E rfl)) ?_
              clear E a; intro a E
              have hc_104 : (decide (bV (kLt kk1 kn1) l0 ≠ x_101)) = false := by (clear S E; first | (simp; done) | (simp [hj7, hj8]; done) | (rw [← Option.some.inj (hb7.trans (by assumption))]; simp; done) | (simp [← Option.some.inj (hb7.trans (by assumption))]; done) | (rw [← Option.some.inj (hb8.trans (by assumption))]; simp; done) | (simp [← Option.some.inj (hb8.trans (by assumption))]; done) | (rw [← Option.some.inj (hb9.trans (by assumption))]; simp; done) | (simp [← Option.some.inj (hb9.trans (by assumption))]; done) | (rw [← Option.some.inj (hb10.trans (by assumption))]; simp; done) | (simp [← Option.some.inj (hb10.trans (by assumption))]; done) | (rw [if_neg (hmin _ (List.mem_of_getElem? (by assumption))), if_neg (hmax _ (List.mem_of_getElem? (by assumption)))]; simp; done))
              replace E := E.val (t := 158) rfl hc_104
              replace E := E.val (t := 159) rfl hc_104
              replace E := E.val (t := 160) rfl hc_104
              refine D_vyes E rfl rfl rfl rfl rfl (fun w hC => (R_move E rfl)) ?_
              clear E a; intro a E
              refine D_vyes E rfl rfl rfl rfl rfl (fun w hC => (R_loadGM E rfl (Try.isAgg24 _) (Try.sizeOf24 _) hC hb_1k96)) ?_
              clear E a; intro a E
              refine D_vyes E rfl rfl rfl rfl rfl (fun w hC => (R_move E rfl)) ?_
              clear E a; intro a E
              refine D_vyes E rfl rfl rfl rfl rfl (fun w hC => (R_move E rfl)) ?_
              clear E a; intro a E
              obtain ⟨x_105, hx_105⟩ : ∃ x, (l0)[bI (kGt kk1 kn1) (l0.take k)]? = some x := ⟨_, List.getElem?_eq_getElem (by first | omega | (simp; done) | (simp; omega) | (simp_all; omega))⟩
              obtain ⟨p_106, hp_106, qp_106⟩ := h0k96.at hx_105
              refine D_vyes E rfl rfl rfl rfl rfl (fun w hC => (R_idx E rfl rfl T22 hp_106 rfl)) ?_
              clear E a; intro a E
              refine D_vyes E rfl rfl rfl rfl rfl (fun w hC => (R_loadM E rfl Try.isAgg3 hC qp_106)) ?_
              clear E a; intro a E
              refine D_yes E rfl rfl rfl rfl (X_pu E S rfl rfl rfl (spec_MaxBy h0 (by omega) (by first | assumption | exact (fun x hx => by rcases List.mem_append.1 hx with h | h; exact hr0 x h; exact hr1 x h)) (by (first | omega | (simp; omega) | (simp; done) | (simp_all; omega) | grind))) (Hp.le.refl _) ?_)
              clear E a S; rintro a _ w M_107 hM_107 rfl S E
              replace h0 := h0.le hM_107
              replace hb_1 := hM_107.2 _ _ hb_1
              replace hz_6 := hz_6.le hM_107
              replace hv_10 := hv_10.le hM_107
              refine ⟨fun x hq hb => (agree_le (hM_103.trans hM_107) S.imm), ?_⟩
              refine D_vyes E rfl rfl rfl rfl rfl (fun w hC => (R_neq E rfl rfl)) ?_
              clear E a; intro a E
              refine D_v E rfl rfl rfl (fun w hC => (R_pickF E rfl rfl)) ?_
              clear E a; intro a E
              refine D_end (NoP_n ?_)
              refine T_n ?_
              have hc_108 : (decide (bV (kGt kk1 kn1) l0 ≠ x_105)) = false := by (clear S E; first | (simp; done) | (simp [hj7, hj8]; done) | (rw [← Option.some.inj (hb7.trans (by assumption))]; simp; done) | (simp [← Option.some.inj (hb7.trans (by assumption))]; done) | (rw [← Option.some.inj (hb8.trans (by assumption))]; simp; done) | (simp [← Option.some.inj (hb8.trans (by assumption))]; done) | (rw [← Option.some.inj (hb9.trans (by assumption))]; simp; done) | (simp [← Option.some.inj (hb9.trans (by assumption))]; done) | (rw [← Option.some.inj (hb10.trans (by assumption))]; simp; done) | (simp [← Option.some.inj (hb10.trans (by assumption))]; done) | (rw [if_neg (hmin _ (List.mem_of_getElem? (by assumption))), if_neg (hmax _ (List.mem_of_getElem? (by assumption)))]; simp; done))
              refine WP_condF E rfl hc_108 ?_
              refine WP_skip ?_
              refine T_n ?_
              refine WP_seq ?_
              have hb_1k108 := hb_1
              have qp_102k108 := qp_102
              have qp_106k108 := qp_106
              have h0k108 := h0
              replace S := S.mono_heap (w' := World.drew _) rfl
              refine WP_drawn (C := fun x w => agree M_107 w) (bf := (fun i => [])) [0, 1, 2, 3, 4, 5, 6, 7, 8, 9, 10, 11, 12, 13, 14, 15, 16, 17, 18, 19, 20, 21, 22, 23, 24, 25, 26, 27, 28, 29, 30, 31, 32, 33, 34, 35, 36, 37, 38, 39, 40, 41, 42, 43, 44, 45, 46, 48, 49, 50, 51, 52, 53, 54, 55, 56, 58, 59, 60, 61, 62, 63, 64, 65, 66, 68, 69, 70, 71, 72, 73, 74, 75, 76, 78, 79, 80, 81, 82, 83, 84, 85, 86, 87, 88, 89, 91, 92, 93, 94, 95, 96] [0, 1, 2, 3, 4, 5, 6, 7, 8, 9, 10, 11, 12, 13, 14, 15, 16, 17, 18, 19, 20, 21, 22, 23, 24, 25, 26, 27, 28, 29, 30, 31, 32, 33, 34, 35, 36, 37, 38, 39, 40, 41, 42, 43, 44, 45, 46, 48, 49, 50, 51, 47, 52, 53, 54, 55, 56, 58, 59, 60, 61, 57, 62, 63, 64, 65, 66, 68, 69, 70, 71, 67, 72, 73, 74, 75, 76, 78, 79, 80, 81, 77, 82, 83, 84, 85, 86, 87, 88, 89, 91, 92, 93, 90, 94, 95, 96] Try.mixed (by kernel_rfl) (fun x hq => S.imm) ?_
              refine D_v E rfl rfl rfl (fun w hC => (R_move E rfl)) ?_
              clear E a; intro a E
              refine D_v E rfl rfl rfl (fun w hC => (R_move E rfl)) ?_
              clear E a; intro a E
              refine D_v E rfl rfl rfl (fun w hC => (R_move E rfl)) ?_
              clear E a; intro a E
              obtain ⟨x_109, hx_109⟩ : ∃ x, (l0)[bI ltb (l0.take k)]? = some x := ⟨_, List.getElem?_eq_getElem (by first | omega | (simp; done) | (simp; omega) | (simp_all; omega))⟩
              obtain ⟨p_110, hp_110, qp_110⟩ := h0.at hx_109
              refine D_v E rfl rfl rfl (fun w hC => (R_idx E rfl rfl T22 hp_110 rfl)) ?_
              clear E a; intro a E
              refine D_v E rfl rfl rfl (fun w hC => (R_loadM E rfl Try.isAgg3 hC qp_110)) ?_
              clear E a; intro a E
              refine D_v E rfl rfl rfl (fun w hC => (R_eql E rfl rfl)) ?_
              clear E a; intro a E
              refine D_v E rfl rfl rfl (fun w hC => (R_move E rfl)) ?_
              clear E a; intro a E
              have hc_111 : (decide (bV ltb l0 = x_109)) = true := by (clear S E; first | (simp; done) | (simp [hj7, hj8]; done) | (rw [← Option.some.inj (hb7.trans (by assumption))]; simp; done) | (simp [← Option.some.inj (hb7.trans (by assumption))]; done) | (rw [← Option.some.inj (hb8.trans (by assumption))]; simp; done) | (simp [← Option.some.inj (hb8.trans (by assumption))]; done) | (rw [← Option.some.inj (hb9.trans (by assumption))]; simp; done) | (simp [← Option.some.inj (hb9.trans (by assumption))]; done) | (rw [← Option.some.inj (hb10.trans (by assumption))]; simp; done) | (simp [← Option.some.inj (hb10.trans (by assumption))]; done) | (rw [if_neg (hmin _ (List.mem_of_getElem? (by assumption))), if_neg (hmax _ (List.mem_of_getElem? (by assumption)))]; simp; done))
              replace E := E.val (t := 175) rfl hc_111
              replace E := E.val (t := 176) rfl hc_111
              refine D_vyes E rfl rfl rfl rfl rfl (fun w hC => (R_move E rfl)) ?_
              clear E a; intro a E
              refine D_vyes E rfl rfl rfl rfl rfl (fun w hC => (R_move E rfl)) ?_
              clear E a; intro a E
              refine D_vyes E rfl rfl rfl rfl rfl (fun w hC => (R_eql E rfl rfl)) ?_
              clear E a; intro a E
              refine D_v E rfl rfl rfl (fun w hC => (R_pickT E rfl rfl)) ?_
              clear E a; intro a E
              refine D_v E rfl rfl rfl (fun w hC => (R_move E rfl)) ?_
              clear E a; intro a E
              have hc_112 : (decide (bJ ltb l0 = ((bI ltb (l0.take k) : Nat) : Int))) = true := by (clear S E; first | (simp; done) | (simp [hj7, hj8]; done) | (rw [← Option.some.inj (hb7.trans (by assumption))]; simp; done) | (simp [← Option.some.inj (hb7.trans (by assumption))]; done) | (rw [← Option.some.inj (hb8.trans (by assumption))]; simp; done) | (simp [← Option.some.inj (hb8.trans (by assumption))]; done) | (rw [← Option.some.inj (hb9.trans (by assumption))]; simp; done) | (simp [← Option.some.inj (hb9.trans (by assumption))]; done) | (rw [← Option.some.inj (hb10.trans (by assumption))]; simp; done) | (simp [← Option.some.inj (hb10.trans (by assumption))]; done) | (rw [if_neg (hmin _ (List.mem_of_getElem? (by assumption))), if_neg (hmax _ (List.mem_of_getElem? (by assumption)))]; simp; done))
              replace E := E.val (t := 179) rfl hc_112
              replace E := E.val (t := 180) rfl hc_112
              replace E := E.val (t := 181) rfl hc_112
              refine D_vyes E rfl rfl rfl rfl rfl (fun w hC => (R_move E rfl)) ?_
              clear E a; intro a E
              refine D_vyes E rfl rfl rfl rfl rfl (fun w hC => (R_move E rfl)) ?_
              clear E a; intro a E
              refine D_vyes E rfl rfl rfl rfl rfl (fun w hC => (R_move E rfl)) ?_
              clear E a; intro a E
              obtain ⟨x_113, hx_113⟩ : ∃ x, (l0)[bI gtb (l0.take k)]? = some x := ⟨_, List.getElem?_eq_getElem (by first | omega | (simp; done) | (simp; omega) | (simp_all; omega))⟩
              obtain ⟨p_114, hp_114, qp_114⟩ := h0.at hx_113
              refine D_vyes E rfl rfl rfl rfl rfl (fun w hC => (R_idx E rfl rfl T22 hp_114 rfl)) ?_
              clear E a; intro a E
              refine D_vyes E rfl rfl rfl rfl rfl (fun w hC => (R_loadM E rfl Try.isAgg3 hC qp_114)) ?_
              clear E a; intro a E
              refine D_vyes E rfl rfl rfl rfl rfl (fun w hC => (R_eql E rfl rfl)) ?_
              clear E a; intro a E
              refine D_v E rfl rfl rfl (fun w hC => (R_pickT E rfl rfl)) ?_
              clear E a; intro a E
              refine D_v E rfl rfl rfl (fun w hC => (R_move E rfl)) ?_
              clear E a; intro a E
              have hc_115 : (decide (bV gtb l0 = x_113)) = true := by (clear S E; first | (simp; done) | (simp [hj7, hj8]; done) | (rw [← Option.some.inj (hb7.trans (by assumption))]; simp; done) | (simp [← Option.some.inj (hb7.trans (by assumption))]; done) | (rw [← Option.some.inj (hb8.trans (by assumption))]; simp; done) | (simp [← Option.some.inj (hb8.trans (by assumption))]; done) | (rw [← Option.some.inj (hb9.trans (by assumption))]; simp; done) | (simp [← Option.some.inj (hb9.trans (by assumption))]; done) | (rw [← Option.some.inj (hb10.trans (by assumption))]; simp; done) | (simp [← Option.some.inj (hb10.trans (by assumption))]; done) | (rw [if_neg (hmin _ (List.mem_of_getElem? (by assumption))), if_neg (hmax _ (List.mem_of_getElem? (by assumption)))]; simp; done))
              replace E := E.val (t := 187) rfl hc_115
              replace E := E.val (t := 188) rfl hc_115
              replace E := E.val (t := 189) rfl hc_115
              refine D_vyes E rfl rfl rfl rfl rfl (fun w hC => (R_move E rfl)) ?_
              clear E a; intro a E
              refine D_vyes E rfl rfl rfl rfl rfl (fun w hC => (R_move E rfl)) ?_
              clear E a; intro a E
              refine D_vyes E rfl rfl rfl rfl rfl (fun w hC => (R_eql E rfl rfl)) ?_
              clear E a; intro a E
              refine D_v E rfl rfl rfl (fun w hC => (R_pickT E rfl rfl)) ?_
              clear E a; intro a E
              refine D_v E rfl rfl rfl (fun w hC => (R_move E rfl)) ?_
              clear E a; intro a E
              have hc_116 : (decide (bJ gtb l0 = ((bI gtb (l0.take k) : Nat) : Int))) = true := by (clear S E; first | (simp; done) | (simp [hj7, hj8]; done) | (rw [← Option.some.inj (hb7.trans (by assumption))]; simp; done) | (simp [← Option.some.inj (hb7.trans (by assumption))]; done) | (rw [← Option.some.inj (hb8.trans (by assumption))]; simp; done) | (simp [← Option.some.inj (hb8.trans (by assumption))]; done) | (rw [← Option.some.inj (hb9.trans (by assumption))]; simp; done) | (simp [← Option.some.inj (hb9.trans (by assumption))]; done) | (rw [← Option.some.inj (hb10.trans (by assumption))]; simp; done) | (simp [← Option.some.inj (hb10.trans (by assumption))]; done) | (rw [if_neg (hmin _ (List.mem_of_getElem? (by assumption))), if_neg (hmax _ (List.mem_of_getElem? (by assumption)))]; simp; done))
              replace E := E.val (t := 192) rfl hc_116
              replace E := E.val (t := 193) rfl hc_116
              replace E := E.val (t := 194) rfl hc_116
              refine D_vyes E rfl rfl rfl rfl rfl (fun w hC => (R_move E rfl)) ?_
              clear E a; intro a E
              refine D_vyes E rfl rfl rfl rfl rfl (fun w hC => (R_move E rfl)) ?_
              clear E a; intro a E
              refine D_vyes E rfl rfl rfl rfl rfl (fun w hC => (R_eql E rfl rfl)) ?_
              clear E a; intro a E
              refine D_v E rfl rfl rfl (fun w hC => (R_pickT E rfl rfl)) ?_
              clear E a; intro a E
              refine D_v E rfl rfl rfl (fun w hC => (R_move E rfl)) ?_
              clear E a; intro a E
              have hc_117 : (decide (bV ltb l0 = bV ltb l0)) = true := by (clear S E; first | (simp; done) | (simp [hj7, hj8]; done) | (rw [← Option.some.inj (hb7.trans (by assumption))]; simp; done) | (simp [← Option.some.inj (hb7.trans (by assumption))]; done) | (rw [← Option.some.inj (hb8.trans (by assumption))]; simp; done) | (simp [← Option.some.inj (hb8.trans (by assumption))]; done) | (rw [← Option.some.inj (hb9.trans (by assumption))]; simp; done) | (simp [← Option.some.inj (hb9.trans (by assumption))]; done) | (rw [← Option.some.inj (hb10.trans (by assumption))]; simp; done) | (simp [← Option.some.inj (hb10.trans (by assumption))]; done) | (rw [if_neg (hmin _ (List.mem_of_getElem? (by assumption))), if_neg (hmax _ (List.mem_of_getElem? (by assumption)))]; simp; done))
              replace E := E.val (t := 197) rfl hc_117
              replace E := E.val (t := 198) rfl hc_117
              replace E := E.val (t := 199) rfl hc_117
              refine D_vyes E rfl rfl rfl rfl rfl (fun w hC => (R_move E rfl)) ?_
              clear E a; intro a E
              refine D_vyes E rfl rfl rfl rfl rfl (fun w hC => (R_move E rfl)) ?_
              clear E a; intro a E
              refine D_vyes E rfl rfl rfl rfl rfl (fun w hC => (R_eql E rfl rfl)) ?_
              clear E a; intro a E
              refine D_v E rfl rfl rfl (fun w hC => (R_pickT E rfl rfl)) ?_
              clear E a; intro a E
              refine D_v E rfl rfl rfl (fun w hC => (R_move E rfl)) ?_
              clear E a; intro a E
              have hc_118 : (decide (bJ ltb l0 = bJ ltb l0)) = true := by (clear S E; first | (simp; done) | (simp [hj7, hj8]; done) | (rw [← Option.some.inj (hb7.trans (by assumption))]; simp; done) | (simp [← Option.some.inj (hb7.trans (by assumption))]; done) | (rw [← Option.some.inj (hb8.trans (by assumption))]; simp; done) | (simp [← Option.some.inj (hb8.trans (by assumption))]; done) | (rw [← Option.some.inj (hb9.trans (by assumption))]; simp; done) | (simp [← Option.some.inj (hb9.trans (by assumption))]; done) | (rw [← Option.some.inj (hb10.trans (by assumption))]; simp; done) | (simp [← Option.some.inj (hb10.trans (by assumption))]; done) | (rw [if_neg (hmin _ (List.mem_of_getElem? (by assumption))), if_neg (hmax _ (List.mem_of_getElem? (by assumption)))]; simp; done))
              replace E := E.val (t := 202) rfl hc_118
              replace E := E.val (t := 203) rfl hc_118
              replace E := E.val (t := 204) rfl hc_118
              refine D_vyes E rfl rfl rfl rfl rfl (fun w hC => (R_move E rfl)) ?_
              clear E a; intro a E
              refine D_vyes E rfl rfl rfl rfl rfl (fun w hC => (R_move E rfl)) ?_
              clear E a; intro a E
              refine D_vyes E rfl rfl rfl rfl rfl (fun w hC => (R_eql E rfl rfl)) ?_
              clear E a; intro a E
              refine D_v E rfl rfl rfl (fun w hC => (R_pickT E rfl rfl)) ?_
              clear E a; intro a E
              refine D_v E rfl rfl rfl (fun w hC => (R_move E rfl)) ?_
              clear E a; intro a E
              have hc_119 : (decide (bV gtb l0 = bV gtb l0)) = true := by (clear S E; first | (simp; done) | (simp [hj7, hj8]; done) | (rw [← Option.some.inj (hb7.trans (by assumption))]; simp; done) | (simp [← Option.some.inj (hb7.trans (by assumption))]; done) | (rw [← Option.some.inj (hb8.trans (by assumption))]; simp; done) | (simp [← Option.some.inj (hb8.trans (by assumption))]; done) | (rw [← Option.some.inj (hb9.trans (by assumption))]; simp; done) | (simp [← Option.some.inj (hb9.trans (by assumption))]; done) | (rw [← Option.some.inj (hb10.trans (by assumption))]; simp; done) | (simp [← Option.some.inj (hb10.trans (by assumption))]; done) | (rw [if_neg (hmin _ (List.mem_of_getElem? (by assumption))), if_neg (hmax _ (List.mem_of_getElem? (by assumption)))]; simp; done))
              replace E := E.val (t := 207) rfl hc_119
              replace E := E.val (t := 208) rfl hc_119
              replace E := E.val (t := 209) rfl hc_119
              refine D_vyes E rfl rfl rfl rfl rfl (fun w hC => (R_move E rfl)) ?_
              clear E a; intro a E
              refine D_vyes E rfl rfl rfl rfl rfl (fun w hC => (R_move E rfl)) ?_
              clear E a; intro a E
              refine D_vyes E rfl rfl rfl rfl rfl (fun w hC => (R_eql E rfl rfl)) ?_
              clear E a; intro a E
              refine D_v E rfl rfl rfl (fun w hC => (R_pickT E rfl rfl)) ?_
              clear E a; intro a E
              refine D_v E rfl rfl rfl (fun w hC => (R_move E rfl)) ?_
              clear E a; intro a E
              have hc_120 : (decide (bJ gtb l0 = bJ gtb l0)) = true := by (clear S E; first | (simp; done) | (simp [hj7, hj8]; done) | (rw [← Option.some.inj (hb7.trans (by assumption))]; simp; done) | (simp [← Option.some.inj (hb7.trans (by assumption))]; done) | (rw [← Option.some.inj (hb8.trans (by assumption))]; simp; done) | (simp [← Option.some.inj (hb8.trans (by assumption))]; done) | (rw [← Option.some.inj (hb9.trans (by assumption))]; simp; done) | (simp [← Option.some.inj (hb9.trans (by assumption))]; done) | (rw [← Option.some.inj (hb10.trans (by assumption))]; simp; done) | (simp [← Option.some.inj (hb10.trans (by assumption))]; done) | (rw [if_neg (hmin _ (List.mem_of_getElem? (by assumption))), if_neg (hmax _ (List.mem_of_getElem? (by assumption)))]; simp; done))
              replace E := E.val (t := 212) rfl hc_120
              replace E := E.val (t := 213) rfl hc_120
              replace E := E.val (t := 214) rfl hc_120
              refine D_vyes E rfl rfl rfl rfl rfl (fun w hC => (R_move E rfl)) ?_
              clear E a; intro a E
              refine D_vyes E rfl rfl rfl rfl rfl (fun w hC => (R_loadGM E rfl (Try.isAgg24 _) (Try.sizeOf24 _) hC hb_1k108)) ?_
              clear E a; intro a E
              refine D_vyes E rfl rfl rfl rfl rfl (fun w hC => (R_move E rfl)) ?_
              clear E a; intro a E
              refine D_vyes E rfl rfl rfl rfl rfl (fun w hC => (R_move E rfl)) ?_
              clear E a; intro a E
              obtain ⟨p_121, hp_121, qp_121⟩ := h0.at hx_101
              refine D_vyes E rfl rfl rfl rfl rfl (fun w hC => (R_idx E rfl rfl T22 hp_121 rfl)) ?_
              clear E a; intro a E
              refine D_vyes E rfl rfl rfl rfl rfl (fun w hC => (R_loadM E rfl Try.isAgg3 hC qp_121)) ?_
              clear E a; intro a E
              refine D_yes E rfl rfl rfl rfl (X_pu E S rfl rfl rfl (impl_MinBy h0 (by omega)) (Hp.le.refl _) ?_)
              clear E a S; rintro a _ w M_122 hM_122 rfl S E
              replace h0 := h0.le hM_122
              replace hb_1 := hM_122.2 _ _ hb_1
              replace hz_6 := hz_6.le hM_122
              replace hv_10 := hv_10.le hM_122
              refine ⟨fun x hq hb => (agree_le hM_122 S.imm), ?_⟩
              refine D_vyes E rfl rfl rfl rfl rfl (fun w hC => (R_eql E rfl rfl)) ?_
              clear E a; intro a E
              refine D_v E rfl rfl rfl (fun w hC => (R_pickT E rfl rfl)) ?_
              clear E a; intro a E
              refine D_v E rfl rfl rfl (fun w hC => (R_move E rfl)) ?_
              clear E a; intro a E
              have hc_123 : (decide (bV (kLt kk1 kn1) l0 = x_101)) = true := by (clear S E; first | (simp; done) | (simp [hj7, hj8]; done) | (rw [← Option.some.inj (hb7.trans (by assumption))]; simp; done) | (simp [← Option.some.inj (hb7.trans (by assumption))]; done) | (rw [← Option.some.inj (hb8.trans (by assumption))]; simp; done) | (simp [← Option.some.inj (hb8.trans (by assumption))]; done) | (rw [← Option.some.inj (hb9.trans (by assumption))]; simp; done) | (simp [← Option.some.inj (hb9.trans (by assumption))]; done) | (rw [← Option.some.inj (hb10.trans (by assumption))]; simp; done) | (simp [← Option.some.inj (hb10.trans (by assumption))]; done) | (rw [if_neg (hmin _ (List.mem_of_getElem? (by assumption))), if_neg (hmax _ (List.mem_of_getElem? (by assumption)))]; simp; done))
              replace E := E.val (t := 222) rfl hc_123
              replace E := E.val (t := 223) rfl hc_123
              replace E := E.val (t := 224) rfl hc_123
              refine D_vyes E rfl rfl rfl rfl rfl (fun w hC => (R_move E rfl)) ?_
              clear E a; intro a E
              refine D_vyes E rfl rfl rfl rfl rfl (fun w hC => (R_loadGM E rfl (Try.isAgg24 _) (Try.sizeOf24 _) hC hb_1k108)) ?_
              clear E a; intro a E
              refine D_vyes E rfl rfl rfl rfl rfl (fun w hC => (R_move E rfl)) ?_
              clear E a; intro a E
              refine D_vyes E rfl rfl rfl rfl rfl (fun w hC => (R_move E rfl)) ?_
              clear E a; intro a E
              obtain ⟨p_124, hp_124, qp_124⟩ := h0k108.at hx_105
              refine D_vyes E rfl rfl rfl rfl rfl (fun w hC => (R_idx E rfl rfl T22 hp_124 rfl)) ?_
              clear E a; intro a E
              refine D_vyes E rfl rfl rfl rfl rfl (fun w hC => (R_loadM E rfl Try.isAgg3 hC qp_124)) ?_
              clear E a; intro a E
              refine D_yes E rfl rfl rfl rfl (X_pu E S rfl rfl rfl (impl_MaxBy h0 (by omega)) (Hp.le.refl _) ?_)
              clear E a S; rintro a _ w M_125 hM_125 rfl S E
              replace h0 := h0.le hM_125
              replace hb_1 := hM_125.2 _ _ hb_1
              replace hz_6 := hz_6.le hM_125
              replace hv_10 := hv_10.le hM_125
              refine ⟨fun x hq hb => (agree_le (hM_122.trans hM_125) S.imm), ?_⟩
              refine D_vyes E rfl rfl rfl rfl rfl (fun w hC => (R_eql E rfl rfl)) ?_
              clear E a; intro a E
              refine D_v E rfl rfl rfl (fun w hC => (R_pickT E rfl rfl)) ?_
              clear E a; intro a E
              refine D_v E rfl rfl rfl (fun w hC => (R_move E rfl)) ?_
              clear E a; intro a E
              have hc_126 : (decide (bV (kGt kk1 kn1) l0 = x_105)) = true := by (clear S E; first | (simp; done) | (simp [hj7, hj8]; done) | (rw [← Option.some.inj (hb7.trans (by assumption))]; simp; done) | (simp [← Option.some.inj (hb7.trans (by assumption))]; done) | (rw [← Option.some.inj (hb8.trans (by assumption))]; simp; done) | (simp [← Option.some.inj (hb8.trans (by assumption))]; done) | (rw [← Option.some.inj (hb9.trans (by assumption))]; simp; done) | (simp [← Option.some.inj (hb9.trans (by assumption))]; done) | (rw [← Option.some.inj (hb10.trans (by assumption))]; simp; done) | (simp [← Option.some.inj (hb10.trans (by assumption))]; done) | (rw [if_neg (hmin _ (List.mem_of_getElem? (by assumption))), if_neg (hmax _ (List.mem_of_getElem? (by assumption)))]; simp; done))
              replace E := E.val (t := 232) rfl hc_126
              replace E := E.val (t := 233) rfl hc_126
              replace E := E.val (t := 234) rfl hc_126
              refine D_vyes E rfl rfl rfl rfl rfl (fun w hC => (R_move E rfl)) ?_
              clear E a; intro a E
              refine D_vyes E rfl rfl rfl rfl rfl (fun w hC => (R_loadGM E rfl (Try.isAgg24 _) (Try.sizeOf24 _) hC hb_1k108)) ?_
              clear E a; intro a E
              refine D_vyes E rfl rfl rfl rfl rfl (fun w hC => (R_move E rfl)) ?_
              clear E a; intro a E
              refine D_vyes E rfl rfl rfl rfl rfl (fun w hC => (R_move E rfl)) ?_
              clear E a; intro a E
              obtain ⟨p_127, hp_127, qp_127⟩ := h0k108.at hx_101
              refine D_vyes E rfl rfl rfl rfl rfl (fun w hC => (R_idx E rfl rfl T22 hp_127 rfl)) ?_
              clear E a; intro a E
              refine D_vyes E rfl rfl rfl rfl rfl (fun w hC => (R_loadM E rfl Try.isAgg3 hC qp_127)) ?_
              clear E a; intro a E
              refine D_yes E rfl rfl rfl rfl (X_pu E S rfl rfl rfl (impl_MinBySeq h0 (by omega)) (Hp.le.refl _) ?_)
              clear E a S; rintro a _ w M_128 hM_128 rfl S E
              replace h0 := h0.le hM_128
              replace hb_1 := hM_128.2 _ _ hb_1
              replace hz_6 := hz_6.le hM_128
              replace hv_10 := hv_10.le hM_128
              refine ⟨fun x hq hb => (agree_le (hM_122.trans (hM_125.trans hM_128)) S.imm), ?_⟩
              refine D_vyes E rfl rfl rfl rfl rfl (fun w hC => (R_eql E rfl rfl)) ?_
              clear E a; intro a E
              refine D_v E rfl rfl rfl (fun w hC => (R_pickT E rfl rfl)) ?_
              clear E a; intro a E
              refine D_v E rfl rfl rfl (fun w hC => (R_move E rfl)) ?_
              clear E a; intro a E
              have hc_129 : (decide (bV (kLt kk1 kn1) l0 = x_101)) = true := by (clear S E; first | (simp; done) | (simp [hj7, hj8]; done) | (rw [← Option.some.inj (hb7.trans (by assumption))]; simp; done) | (simp [← Option.some.inj (hb7.trans (by assumption))]; done) | (rw [← Option.some.inj (hb8.trans (by assumption))]; simp; done) | (simp [← Option.some.inj (hb8.trans (by assumption))]; done) | (rw [← Option.some.inj (hb9.trans (by assumption))]; simp; done) | (simp [← Option.some.inj (hb9.trans (by assumption))]; done) | (rw [← Option.some.inj (hb10.trans (by assumption))]; simp; done) | (simp [← Option.some.inj (hb10.trans (by assumption))]; done) | (rw [if_neg (hmin _ (List.mem_of_getElem? (by assumption))), if_neg (hmax _ (List.mem_of_getElem? (by assumption)))]; simp; done))
              replace E := E.val (t := 242) rfl hc_129
              replace E := E.val (t := 243) rfl hc_129
              replace E := E.val (t := 244) rfl hc_129
              refine D_vyes E rfl rfl rfl rfl rfl (fun w hC => (R_move E rfl)) ?_
              clear E a; intro a E
              refine D_vyes E rfl rfl rfl rfl rfl (fun w hC => (R_loadGM E rfl (Try.isAgg24 _) (Try.sizeOf24 _) hC hb_1k108)) ?_
              clear E a; intro a E
              refine D_vyes E rfl rfl rfl rfl rfl (fun w hC => (R_move E rfl)) ?_
              clear E a; intro a E
              refine D_vyes E rfl rfl rfl rfl rfl (fun w hC => (R_move E rfl)) ?_
              clear E a; intro a E
              obtain ⟨p_130, hp_130, qp_130⟩ := h0k108.at hx_105
              refine D_vyes E rfl rfl rfl rfl rfl (fun w hC => (R_idx E rfl rfl T22 hp_130 rfl)) ?_
              clear E a; intro a E
              refine D_vyes E rfl rfl rfl rfl rfl (fun w hC => (R_loadM E rfl Try.isAgg3 hC qp_130)) ?_
              clear E a; intro a E
              refine D_yes E rfl rfl rfl rfl (X_pu E S rfl rfl rfl (impl_MaxBySeq h0 (by omega)) (Hp.le.refl _) ?_)
              clear E a S; rintro a _ w M_131 hM_131 rfl S E
              replace h0 := h0.le hM_131
              replace hb_1 := hM_131.2 _ _ hb_1
              replace hz_6 := hz_6.le hM_131
              replace hv_10 := hv_10.le hM_131
              refine ⟨fun x hq hb => (agree_le (hM_122.trans (hM_125.trans (hM_128.trans hM_131))) S.imm), ?_⟩
              refine D_vyes E rfl rfl rfl rfl rfl (fun w hC => (R_eql E rfl rfl)) ?_
              clear E a; intro a E
              refine D_v E rfl rfl rfl (fun w hC => (R_pickT E rfl rfl)) ?_
              clear E a; intro a E
              refine D_v E rfl rfl rfl (fun w hC => (R_move E rfl)) ?_
              clear E a; intro a E
              have hc_132 : (decide (bV (kGt kk1 kn1) l0 = x_105)) = true := by (clear S E; first | (simp; done) | (simp [hj7, hj8]; done) | (rw [← Option.some.inj (hb7.trans (by assumption))]; simp; done) | (simp [← Option.some.inj (hb7.trans (by assumption))]; done) | (rw [← Option.some.inj (hb8.trans (by assumption))]; simp; done) | (simp [← Option.some.inj (hb8.trans (by assumption))]; done) | (rw [← Option.some.inj (hb9.trans (by assumption))]; simp; done) | (simp [← Option.some.inj (hb9.trans (by assumption))]; done) | (rw [← Option.some.inj (hb10.trans (by assumption))]; simp; done) | (simp [← Option.some.inj (hb10.trans (by assumption))]; done) | (rw [if_neg (hmin _ (List.mem_of_getElem? (by assumption))), if_neg (hmax _ (List.mem_of_getElem? (by assumption)))]; simp; done))
              replace E := E.val (t := 252) rfl hc_132
              replace E := E.val (t := 253) rfl hc_132
              replace E := E.val (t := 254) rfl hc_132
              refine D_vyes E rfl rfl rfl rfl rfl (fun w hC => (R_move E rfl)) ?_
              clear E a; intro a E
              obtain ⟨x_133, hx_133⟩ : ∃ x, (l0)[0]? = some x := ⟨_, List.getElem?_eq_getElem (by first | omega | (simp; done) | (simp; omega) | (simp_all; omega))⟩
              obtain ⟨p_134, hp_134, qp_134⟩ := h0k108.at hx_133
              refine D_vyes E rfl rfl rfl rfl rfl (fun w hC => (R_idx E rfl rfl T22 hp_134 (by omega))) ?_
              clear E a; intro a E
              refine D_vyes E rfl rfl rfl rfl rfl (fun w hC => (R_loadM E rfl Try.isAgg3 hC qp_134)) ?_
              clear E a; intro a E
              refine D_vyes E rfl rfl rfl rfl rfl (fun w hC => (R_move E rfl)) ?_
              clear E a; intro a E
              refine D_vyes E rfl rfl rfl rfl rfl (fun w hC => (R_move E rfl)) ?_
              clear E a; intro a E
              refine D_vyes E rfl rfl rfl rfl rfl (fun w hC => (R_move E rfl)) ?_
              clear E a; intro a E
              obtain ⟨p_135, hp_135, qp_135⟩ := h0k108.at hx_133
              refine D_vyes E rfl rfl rfl rfl rfl (fun w hC => (R_idx E rfl rfl T22 hp_135 (by omega))) ?_
              clear E a; intro a E
              refine D_vyes E rfl rfl rfl rfl rfl (fun w hC => (R_loadM E rfl Try.isAgg3 hC qp_135)) ?_
              clear E a; intro a E
              refine D_yes E rfl rfl rfl rfl (X_pu E S rfl rfl rfl (impl_Clamp ) (Hp.le.refl _) ?_)
              clear E a S; rintro a _ w M_136 hM_136 rfl S E
              replace h0 := h0.le hM_136
              replace hb_1 := hM_136.2 _ _ hb_1
              replace hz_6 := hz_6.le hM_136
              replace hv_10 := hv_10.le hM_136
              refine ⟨fun x hq hb => (agree_le (hM_122.trans (hM_125.trans (hM_128.trans (hM_131.trans hM_136)))) S.imm), ?_⟩
              refine D_vyes E rfl rfl rfl rfl rfl (fun w hC => (R_eql E rfl rfl)) ?_
              clear E a; intro a E
              refine D_v E rfl rfl rfl (fun w hC => (R_pickT E rfl rfl)) ?_
              clear E a; intro a E
              refine D_v E rfl rfl rfl (fun w hC => (R_assign E rfl)) ?_
              clear E a; intro a E
              refine D_end (NoP_n ?_)
              refine T_n ?_
              refine WP_ret ?_
              exact F_ret1 E Try.results3 rfl ⟨_, rfl, M_136, (hM_2.trans (hM_5.trans (hM_7.trans (hM_11.trans (hM_12.trans (hM_14.trans (hM_18.trans (hM_91.trans (hM_92.trans (hM_93.trans (hM_94.trans (hM_95.trans (hM_96.trans (hM_103.trans (hM_107.trans (hM_122.trans (hM_125.trans (hM_128.trans (hM_131.trans hM_136))))))))))))))))))), (congrArg Value.bool (by (clear S E; first | (simp; done) | (simp [hj7, hj8]; done) | (rw [← Option.some.inj (hb7.trans (by assumption))]; simp; done) | (simp [← Option.some.inj (hb7.trans (by assumption))]; done) | (rw [← Option.some.inj (hb8.trans (by assumption))]; simp; done) | (simp [← Option.some.inj (hb8.trans (by assumption))]; done) | (rw [← Option.some.inj (hb9.trans (by assumption))]; simp; done) | (simp [← Option.some.inj (hb9.trans (by assumption))]; done) | (rw [← Option.some.inj (hb10.trans (by assumption))]; simp; done) | (simp [← Option.some.inj (hb10.trans (by assumption))]; done) | (rw [if_neg (hmin _ (List.mem_of_getElem? (by assumption))), if_neg (hmax _ (List.mem_of_getElem? (by assumption)))]; simp; done)))), S⟩

end Go.Proofs.Ytgljcnmakpnamaa.wFnExtremes
