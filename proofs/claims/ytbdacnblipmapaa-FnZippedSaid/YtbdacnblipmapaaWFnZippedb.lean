/- Walks through the functions that laws.FnZipped reaches: what each computes; no conditions beyond what each theorem states. -/
import Derived.Test.YtbdacnblipmapaaWFnZippeda
set_option linter.unusedVariables false
set_option linter.unusedSimpArgs false
namespace Go.Proofs.Ytbdacnblipmapaa.wFnZipped
open Go Go.Sl
set_option maxRecDepth 100000 in
set_option maxHeartbeats 4000000 in
theorem laws_few {M : Hp} {v0 : Value} {l0 : List (List Int)} (h0 : RdII M v0 l0) :
    Pu Try.prog (.func (.func 13) #[] #[]) M [v0] (fun r M' => r = .bool (decide (∀ x ∈ l0, x.length ≤ 300))) := by
  refine Pu_enter Try.func13 rfl Try.ntmps13 rfl Try.call13 ?_
  intro a w M1 H hM1 S E
  replace h0 := h0.le hM1
  have b0 := h0.bound
  refine WP_seq ?_
  refine WP_region ?_
  refine S_v E rfl (R_assign E rfl) rfl ?_
  clear E a; intro a E
  refine WL_nil ?_
  refine T_n ?_
  refine WP_seq ?_
  refine WP_seq ?_
  refine WP_region ?_
  refine S_v E rfl (R_move E rfl) rfl ?_
  clear E a; intro a E
  refine S_v E rfl (R_lenV E rfl T22 h0.len) rfl ?_
  clear E a; intro a E
  refine S_v E rfl (R_move E rfl) rfl ?_
  clear E a; intro a E
  refine WL_nil ?_
  refine T_n ?_
  refine WP_block ?_
  refine WP_loop (γ := Nat) (fun (k : Nat) a w => ∃ (M_1 : Hp), Hp.le M1 M_1 ∧ St w M_1 (H) ∧ Env a 15 [] [(5, v0), (6, .int .i64 (((l0).length : Nat) : Int)), (7, .int .i64 ((k : Nat) : Int))] ∧ (k ≤ (l0).length) ∧ (∀ x ∈ l0.take k, x.length ≤ 300)) (fun k => ((l0).length) - k) 0 ⟨M1, Hp.le.refl _, S, E.keep ⟨rfl, rfl, rfl, trivial⟩, by ((try clear S); (try clear E); first | assumption | omega | rfl | (simp; done) | (simp_all; done) | (simp [List.take_add_one, *]; done) | grind [List.take_add_one]), by ((try clear S); (try clear E); first | assumption | omega | rfl | (simp; done) | (simp_all; done) | (simp [List.take_add_one, *]; done) | grind [List.take_add_one])⟩ ?_
  try clear E
  try clear S
  try clear a
  try clear w
  rintro k a w ⟨M_1, hM_1, S, E, hL0_0, hL0_1⟩
  replace h0 := h0.le hM_1
  refine WP_seq ?_
  refine WP_region ?_
  refine S_v E rfl (R_lss E rfl rfl) rfl ?_
  clear E a; intro a E
  refine WL_nil ?_
  refine T_n ?_
  refine WP_seq ?_
  refine WP_cond E rfl (fun hc_2 => ?_) (fun hc_2 => ?_)
  · replace hc_2 := of_decide_eq_true hc_2
    refine WP_skip ?_
    refine T_n ?_
    refine WP_seq ?_
    refine WP_block ?_
    refine WP_seq ?_
    refine WP_region ?_
    obtain ⟨x_3, hx_3⟩ : ∃ x, (l0)[k]? = some x := ⟨_, List.getElem?_eq_getElem (by first | omega | (simp; done) | (simp; omega) | (simp_all; omega))⟩
    obtain ⟨p_4, u_5, hp_4, qp_4, hu_5⟩ := h0.at hx_3
    have bu_5 := hu_5.bound
    refine S_v E rfl (R_idx E rfl rfl T22 hp_4 rfl) rfl ?_
    clear E a; intro a E
    refine S_v E rfl (R_loadM E rfl Try.isAgg24 S.imm qp_4) rfl ?_
    clear E a; intro a E
    refine S_v E rfl (R_assign E rfl) rfl ?_
    clear E a; intro a E
    refine WL_nil ?_
    refine T_n ?_
    refine WP_seq ?_
    refine WP_region ?_
    refine S_v E rfl (R_move E rfl) rfl ?_
    clear E a; intro a E
    refine S_v E rfl (R_lenV E rfl T24 hu_5.len) rfl ?_
    clear E a; intro a E
    refine S_v E rfl (R_gtr E rfl rfl) rfl ?_
    clear E a; intro a E
    refine WL_nil ?_
    refine T_n ?_
    refine WP_cond E rfl (fun hc_6 => ?_) (fun hc_6 => ?_)
    · replace hc_6 := of_decide_eq_true hc_6
      refine WP_seq ?_
      refine WP_region ?_
      refine S_v E rfl (R_assign E rfl) rfl ?_
      clear E a; intro a E
      refine WL_nil ?_
      refine T_n ?_
      refine WP_ret ?_
      refine B_r ?_
      refine T_r ?_
      refine T_r ?_
      refine B_r ?_
      refine T_r ?_
      exact F_ret1 E Try.results13 rfl ⟨_, rfl, M_1, hM_1, (bF (by ((try clear S); (try clear E); first | assumption | omega | rfl | (simp; done) | (simp_all; done) | (simp [List.take_add_one, *]; done) | grind [List.take_add_one]))), S⟩
    · replace hc_6 := of_decide_eq_false hc_6
      refine WP_skip ?_
      refine B_n ?_
      refine T_n ?_
      refine WP_region ?_
      refine S_v E rfl (R_addx (m := ((k + 1 : Nat) : Int)) E rfl rfl (by omega) (by omega)) rfl ?_
      clear E a; intro a E
      refine S_v E rfl (R_move E rfl) rfl ?_
      clear E a; intro a E
      refine WL_nil ?_
      refine T_n ?_
      exact ⟨k + 1, ⟨M_1, hM_1, S, E.keep ⟨rfl, rfl, rfl, trivial⟩, by ((try clear S); (try clear E); first | assumption | omega | rfl | (simp; done) | (simp_all; done) | (simp [List.take_add_one, *]; done) | grind [List.take_add_one]), by ((try clear S); (try clear E); first | assumption | omega | rfl | (simp; done) | (simp_all; done) | (simp [List.take_add_one, *]; done) | grind [List.take_add_one])⟩, by omega⟩
  · replace hc_2 := of_decide_eq_false hc_2
    refine WP_exit ?_
    refine T_x ?_
    refine T_x ?_
    refine B_x ?_
    refine T_n ?_
    refine WP_seq ?_
    refine WP_region ?_
    refine S_v E rfl (R_assign E rfl) rfl ?_
    clear E a; intro a E
    refine WL_nil ?_
    refine T_n ?_
    refine WP_ret ?_
    exact F_ret1 E Try.results13 rfl ⟨_, rfl, M_1, hM_1, (bT (by ((try clear S); (try clear E); first | assumption | omega | rfl | (simp; done) | (simp_all; done) | (simp [List.take_add_one, *]; done) | grind [List.take_add_one]))), S⟩

set_option maxRecDepth 100000 in
set_option maxHeartbeats 4000000 in
theorem laws_just {M : Hp} {kk0 kn0 : Int} (gk0 : -9223372036854775808 ≤ kn0 ∧ kn0 ≤ 9223372036854775807) :
    Pu Try.prog (.func (.func 23) #[] #[]) M [.agg #[.int .i64 kk0, .int .i64 kn0]] (fun r M' => r = .bool (decide (-1099511627776 < kn0 ∧ kn0 < 1099511627776))) := by
  refine Pu_enter Try.func23 rfl Try.ntmps23 rfl Try.call23 ?_
  intro a w M1 H hM1 S E
  refine WP_seq ?_
  refine WP_region ?_
  refine S_x (X_box (cs := #[.int .i64 kk0, .int .i64 kn0]) E S rfl rfl rfl ?_)
  clear E a S; rintro a w b_1 E S
  obtain ⟨M_2, hM_2, hb_1, S⟩ := S.freezeB
  refine S_v E rfl (R_assign E rfl) rfl ?_
  clear E a; intro a E
  refine WL_nil ?_
  refine T_n ?_
  refine WP_seq ?_
  refine WP_region ?_
  refine S_v E rfl (R_fieldAddr E rfl (FA31_1 _)) rfl ?_
  clear E a; intro a E
  refine S_v E rfl (R_loadM E rfl Try.isAgg3 S.imm (cellM_boxo hb_1 rfl)) rfl ?_
  clear E a; intro a E
  refine S_v E rfl (R_gtr E rfl rfl) rfl ?_
  clear E a; intro a E
  refine S_v E rfl (R_move E rfl) rfl ?_
  clear E a; intro a E
  refine split_bool (decide ((-1099511627776) < kn0)) (fun hc_3 => ?_) (fun hc_3 => ?_)
  · replace E := E.val (t := 5) rfl hc_3
    replace E := E.val (t := 6) rfl hc_3
    replace hc_3 := of_decide_eq_true hc_3
    refine WL_guard_yes E rfl rfl ?_
    refine S_v E rfl (R_fieldAddr E rfl (FA31_1 _)) rfl ?_
    clear E a; intro a E
    refine WL_guard_yes E rfl rfl ?_
    refine S_v E rfl (R_loadM E rfl Try.isAgg3 S.imm (cellM_boxo hb_1 rfl)) rfl ?_
    clear E a; intro a E
    refine WL_guard_yes E rfl rfl ?_
    refine S_v E rfl (R_lss E rfl rfl) rfl ?_
    clear E a; intro a E
    refine S_v E rfl (R_pickT E rfl rfl) rfl ?_
    clear E a; intro a E
    refine S_v E rfl (R_assign E rfl) rfl ?_
    clear E a; intro a E
    refine WL_nil ?_
    refine T_n ?_
    refine WP_ret ?_
    exact F_ret1 E Try.results23 rfl ⟨_, rfl, M_2, hM_2, (congrArg Value.bool (by ((try clear S); (try clear E); first | assumption | omega | rfl | (simp; done) | (simp_all; done) | (simp [List.take_add_one, *]; done) | grind [List.take_add_one]))), S⟩
  · replace E := E.val (t := 5) rfl hc_3
    replace E := E.val (t := 6) rfl hc_3
    replace hc_3 := of_decide_eq_false hc_3
    refine WL_guard_no E rfl rfl rfl rfl fun a E => ?_
    refine WL_guard_no E rfl rfl rfl rfl fun a E => ?_
    refine WL_guard_no E rfl rfl rfl rfl fun a E => ?_
    refine S_v E rfl (R_pickF E rfl rfl) rfl ?_
    clear E a; intro a E
    refine S_v E rfl (R_assign E rfl) rfl ?_
    clear E a; intro a E
    refine WL_nil ?_
    refine T_n ?_
    refine WP_ret ?_
    exact F_ret1 E Try.results23 rfl ⟨_, rfl, M_2, hM_2, (bF (by ((try clear S); (try clear E); first | assumption | omega | rfl | (simp; done) | (simp_all; done) | (simp [List.take_add_one, *]; done) | grind [List.take_add_one]))), S⟩

set_option maxRecDepth 100000 in
set_option maxHeartbeats 4000000 in
theorem lo_Unzip2 {M : Hp} {v0 : Value} {l0 : List (Int × Int)} (h0 : RdS 2 RP2 M v0 l0) (hb : l0.length ≤ 1000000000000) :
    Pu Try.prog (.func (.func 117) #[] #[]) M [v0] (fun r M' => ∃ t0 t1, r = .tuple #[t0, t1] ∧ RdI M' t0 ((l0).map (fun p => p.1)) ∧ RdI M' t1 ((l0).map (fun p => p.2))) := by
  refine Pu_enter Try.func117 rfl Try.ntmps117 rfl Try.call117 ?_
  intro a w M1 H hM1 S E
  replace h0 := h0.le RP2_mono hM1
  have b0 := h0.bound
  refine WP_seq ?_
  refine WP_region ?_
  refine S_v E rfl (R_assign E rfl) rfl ?_
  clear E a; intro a E
  refine S_v E rfl (R_assign E rfl) rfl ?_
  clear E a; intro a E
  refine WL_nil ?_
  refine T_n ?_
  refine WP_seq ?_
  refine WP_region ?_
  refine S_v E rfl (R_move E rfl) rfl ?_
  clear E a; intro a E
  refine S_v E rfl (R_lenV E rfl T104 h0.len) rfl ?_
  clear E a; intro a E
  refine S_v E rfl (R_assign E rfl) rfl ?_
  clear E a; intro a E
  refine WL_nil ?_
  refine T_n ?_
  refine WP_seq ?_
  refine WP_region ?_
  refine S_v E rfl (R_move E rfl) rfl ?_
  clear E a; intro a E
  refine S_x (X_make0 (k := (l0).length) E S rfl rfl rfl T24 rfl (by omega) (by omega) (by omega) ?_)
  clear E a S; rintro a w v_1 E S
  replace S := S.made0
  refine S_v E rfl (R_assign E rfl) rfl ?_
  clear E a; intro a E
  refine WL_nil ?_
  refine T_n ?_
  refine WP_seq ?_
  refine WP_region ?_
  refine S_v E rfl (R_move E rfl) rfl ?_
  clear E a; intro a E
  refine S_x (X_make0 (k := (l0).length) E S rfl rfl rfl T24 rfl (by omega) (by omega) (by omega) ?_)
  clear E a S; rintro a w v_2 E S
  replace S := S.made0
  refine S_v E rfl (R_assign E rfl) rfl ?_
  clear E a; intro a E
  refine WL_nil ?_
  refine T_n ?_
  refine WP_seq ?_
  refine WP_seq ?_
  refine WP_region ?_
  refine S_v E rfl (R_move E rfl) rfl ?_
  clear E a; intro a E
  refine S_v E rfl (R_lenV E rfl T104 h0.len) rfl ?_
  clear E a; intro a E
  refine S_v E rfl (R_move E rfl) rfl ?_
  clear E a; intro a E
  refine WL_nil ?_
  refine T_n ?_
  refine WP_block ?_
  replace S := S.front1
  replace S := S.front1
  replace S := S.re1 (l' := (l0.take 0).map (fun p => p.2)) (by first | (simp; done) | (rw [tk_snoc (by assumption), List.map_append]; rfl))
  replace S := S.front1
  replace S := S.re1 (l' := (l0.take 0).map (fun p => p.1)) (by first | (simp; done) | (rw [tk_snoc (by assumption), List.map_append]; rfl))
  refine WP_loop (γ := Nat) (fun (k : Nat) a w => ∃ (M_3 : Hp) (u5 : Value) (u6 : Value), Hp.le M1 M_3 ∧ St w M_3 (OwnI 3 u5 ((l0.take k).map (fun p => p.1)) :: OwnI 3 u6 ((l0.take k).map (fun p => p.2)) :: H) ∧ Env a 38 [] [(0, v0), (5, u5), (6, u6), (15, .int .i64 (((l0).length : Nat) : Int)), (16, .int .i64 ((k : Nat) : Int))] ∧ (k ≤ (l0).length)) (fun k => ((l0).length) - k) 0 ⟨M1, _, _, Hp.le.refl _, S, E.keep ⟨rfl, rfl, rfl, rfl, rfl, trivial⟩, by ((try clear S); (try clear E); first | assumption | omega | rfl | (simp; done) | (simp_all; done) | (simp [List.take_add_one, *]; done) | grind [List.take_add_one])⟩ ?_
  try clear E
  try clear S
  try clear a
  try clear w
  rintro k a w ⟨M_3, u5, u6, hM_3, S, E, hL0_0⟩
  replace h0 := h0.le RP2_mono hM_3
  refine WP_seq ?_
  refine WP_region ?_
  refine S_v E rfl (R_lss E rfl rfl) rfl ?_
  clear E a; intro a E
  refine WL_nil ?_
  refine T_n ?_
  refine WP_seq ?_
  refine WP_cond E rfl (fun hc_4 => ?_) (fun hc_4 => ?_)
  · replace hc_4 := of_decide_eq_true hc_4
    refine WP_skip ?_
    refine T_n ?_
    refine WP_seq ?_
    refine WP_block ?_
    refine WP_seq ?_
    refine WP_region ?_
    refine S_v E rfl (R_move E rfl) rfl ?_
    clear E a; intro a E
    refine S_v E rfl (R_assign E rfl) rfl ?_
    clear E a; intro a E
    refine WL_nil ?_
    refine T_n ?_
    refine WP_seq ?_
    refine WP_region ?_
    refine S_v E rfl (R_move E rfl) rfl ?_
    clear E a; intro a E
    refine S_v E rfl (R_move E rfl) rfl ?_
    clear E a; intro a E
    refine S_v E rfl (R_move E rfl) rfl ?_
    clear E a; intro a E
    obtain ⟨x_5, hx_5⟩ : ∃ x, (l0)[k]? = some x := ⟨_, List.getElem?_eq_getElem (by first | omega | (simp; done) | (simp; omega) | (simp_all; omega))⟩
    obtain ⟨p_6, hp_6, qp_6⟩ := RdP2.at h0 hx_5
    refine S_v E rfl (R_idx E rfl rfl T104 hp_6 rfl) rfl ?_
    clear E a; intro a E
    have qf_7 := qp_6 0 _ rfl
    refine S_v E rfl (R_fieldAddr E rfl (FA106_0 _)) rfl ?_
    clear E a; intro a E
    refine S_v E rfl (R_loadM E rfl Try.isAgg3 S.imm qf_7) rfl ?_
    clear E a; intro a E
    refine S_x (X_buildI (ys := [x_5.1]) E S rfl T24 rfl rfl rfl ?_)
    clear E a S; rintro a w v_8 E S
    replace S := S.front1
    replace S := S.front1
    refine S_x (X_appendB (xs := (l0.take k).map (fun p => p.1)) (ys := [x_5.1]) E S rfl rfl rfl T24 (by (simp only [List.length_take, List.length_map, List.length_cons, List.length_nil]; omega)) ?_)
    clear E a S; rintro a w v_9 E S
    refine S_v E rfl (R_assign E rfl) rfl ?_
    clear E a; intro a E
    refine WL_nil ?_
    refine T_n ?_
    refine WP_region ?_
    refine S_v E rfl (R_move E rfl) rfl ?_
    clear E a; intro a E
    refine S_v E rfl (R_move E rfl) rfl ?_
    clear E a; intro a E
    refine S_v E rfl (R_move E rfl) rfl ?_
    clear E a; intro a E
    obtain ⟨p_10, hp_10, qp_10⟩ := RdP2.at h0 hx_5
    refine S_v E rfl (R_idx E rfl rfl T104 hp_10 rfl) rfl ?_
    clear E a; intro a E
    have qf_11 := qp_10 1 _ rfl
    refine S_v E rfl (R_fieldAddr E rfl (FA106_1 _)) rfl ?_
    clear E a; intro a E
    refine S_v E rfl (R_loadM E rfl Try.isAgg3 S.imm qf_11) rfl ?_
    clear E a; intro a E
    refine S_x (X_buildI (ys := [x_5.2]) E S rfl T24 rfl rfl rfl ?_)
    clear E a S; rintro a w v_12 E S
    replace S := S.front2
    replace S := S.front1
    refine S_x (X_appendB (xs := (l0.take k).map (fun p => p.2)) (ys := [x_5.2]) E S rfl rfl rfl T24 (by (simp only [List.length_take, List.length_map, List.length_cons, List.length_nil]; omega)) ?_)
    clear E a S; rintro a w v_13 E S
    refine S_v E rfl (R_assign E rfl) rfl ?_
    clear E a; intro a E
    refine WL_nil ?_
    refine B_n ?_
    refine T_n ?_
    refine WP_region ?_
    refine S_v E rfl (R_addx (m := ((k + 1 : Nat) : Int)) E rfl rfl (by omega) (by omega)) rfl ?_
    clear E a; intro a E
    refine S_v E rfl (R_move E rfl) rfl ?_
    clear E a; intro a E
    refine WL_nil ?_
    refine T_n ?_
    replace S := S.front1
    replace S := S.front1
    replace S := S.re1 (l' := (l0.take (k + 1)).map (fun p => p.2)) (by first | (simp; done) | (rw [tk_snoc (by assumption), List.map_append]; rfl))
    replace S := S.front1
    replace S := S.re1 (l' := (l0.take (k + 1)).map (fun p => p.1)) (by first | (simp; done) | (rw [tk_snoc (by assumption), List.map_append]; rfl))
    exact ⟨k + 1, ⟨M_3, _, _, hM_3, S, E.keep ⟨rfl, rfl, rfl, rfl, rfl, trivial⟩, by ((try clear S); (try clear E); first | assumption | omega | rfl | (simp; done) | (simp_all; done) | (simp [List.take_add_one, *]; done) | grind [List.take_add_one])⟩, by omega⟩
  · replace hc_4 := of_decide_eq_false hc_4
    refine WP_exit ?_
    refine T_x ?_
    refine T_x ?_
    refine B_x ?_
    refine T_n ?_
    refine WP_seq ?_
    refine WP_region ?_
    refine S_v E rfl (R_move E rfl) rfl ?_
    clear E a; intro a E
    refine S_v E rfl (R_move E rfl) rfl ?_
    clear E a; intro a E
    refine S_v E rfl (R_assign E rfl) rfl ?_
    clear E a; intro a E
    refine S_v E rfl (R_assign E rfl) rfl ?_
    clear E a; intro a E
    refine WL_nil ?_
    refine T_n ?_
    refine WP_ret ?_
    have S0 := S; clear S
    obtain ⟨M_14, hM_14, hz_15, S⟩ := S0.freezeI (by (first | omega | (simp; done) | (simp only [List.length_take, List.length_map]; omega)))
    clear S0
    replace h0 := h0.le RP2_mono hM_14
    have S0 := S; clear S
    obtain ⟨M_16, hM_16, hz_17, S⟩ := S0.freezeI (by (first | omega | (simp; done) | (simp only [List.length_take, List.length_map]; omega)))
    clear S0
    replace h0 := h0.le RP2_mono hM_16
    replace hz_15 := hz_15.le hM_16
    exact F_ret2 E Try.results117 rfl rfl ⟨_, rfl, M_16, (hM_3.trans (hM_14.trans hM_16)), ⟨_, _, rfl, (by rw [show ((l0).map (fun p => p.1)) = ((l0.take k).map (fun p => p.1)) from by (rw [List.take_of_length_le (by omega)])]; exact hz_15), (by rw [show ((l0).map (fun p => p.2)) = ((l0.take k).map (fun p => p.2)) from by (rw [List.take_of_length_le (by omega)])]; exact hz_17)⟩, S⟩

set_option maxRecDepth 100000 in
set_option maxHeartbeats 4000000 in
theorem impl_Unzip2 {M : Hp} {v0 : Value} {l0 : List (Int × Int)} (h0 : RdS 2 RP2 M v0 l0) (hb : l0.length ≤ 1000000000000) :
    Pu Try.prog (.func (.func 64) #[] #[]) M [v0] (fun r M' => ∃ t0 t1, r = .tuple #[t0, t1] ∧ RdI M' t0 ((l0).map (fun p => p.1)) ∧ RdI M' t1 ((l0).map (fun p => p.2))) := by
  refine Pu_enter Try.func64 rfl Try.ntmps64 rfl Try.call64 ?_
  intro a w M1 H hM1 S E
  replace h0 := h0.le RP2_mono hM1
  have b0 := h0.bound
  refine WP_seq ?_
  refine WP_region ?_
  refine S_v E rfl (R_assign E rfl) rfl ?_
  clear E a; intro a E
  refine S_v E rfl (R_assign E rfl) rfl ?_
  clear E a; intro a E
  refine WL_nil ?_
  refine T_n ?_
  refine WP_seq ?_
  refine WP_region ?_
  refine S_v E rfl (R_assign E rfl) rfl ?_
  clear E a; intro a E
  refine WL_nil ?_
  refine T_n ?_
  refine WP_seq ?_
  refine WP_seq ?_
  refine WP_region ?_
  refine S_v E rfl (R_move E rfl) rfl ?_
  clear E a; intro a E
  refine S_v E rfl (R_lenV E rfl T51 h0.len) rfl ?_
  clear E a; intro a E
  refine S_v E rfl (R_move E rfl) rfl ?_
  clear E a; intro a E
  refine WL_nil ?_
  refine T_n ?_
  refine WP_block ?_
  replace S : St w M1 (OwnC 106 2 (.slice none 0 0) ([] : List (Int × Int)).length [] :: _) := S.ownNil
  have hr_2 : RowsR RP2 2 M1 ([] : List (Int × Int)) [] := RowsR.nil
  have hre : ([] : List (Int × Int)) = (l0).take 0 := by first | (simp; done) | exact (tk_snoc (by assumption)).symm
  replace S := S.reR hre
  replace hr_2 := hr_2.eq hre
  clear hre
  refine WP_loop (γ := Nat) (fun (k : Nat) a w => ∃ (M_3 : Hp) (u4 : Value) (xs4 : List Value), Hp.le M1 M_3 ∧ St w M_3 (OwnC 106 2 u4 ((l0).take k).length xs4 :: H) ∧ Env a 26 [] [(4, u4), (7, v0), (8, .int .i64 (((l0).length : Nat) : Int)), (9, .int .i64 ((k : Nat) : Int))] ∧ (k ≤ (l0).length) ∧ RowsR RP2 2 M_3 ((l0).take k) xs4) (fun k => ((l0).length) - k) 0 ⟨M1, _, _, Hp.le.refl _, S, E.keep ⟨rfl, rfl, rfl, rfl, trivial⟩, by ((try clear S); (try clear E); first | assumption | omega | rfl | (simp; done) | (simp_all; done) | (simp [List.take_add_one, *]; done) | grind [List.take_add_one]), hr_2⟩ ?_
  try clear E
  try clear S
  try clear a
  try clear w
  rintro k a w ⟨M_3, u4, xs4, hM_3, S, E, hL0_0, hr4⟩
  replace h0 := h0.le RP2_mono hM_3
  refine WP_seq ?_
  refine WP_region ?_
  refine S_v E rfl (R_lss E rfl rfl) rfl ?_
  clear E a; intro a E
  refine WL_nil ?_
  refine T_n ?_
  refine WP_seq ?_
  refine WP_cond E rfl (fun hc_4 => ?_) (fun hc_4 => ?_)
  · replace hc_4 := of_decide_eq_true hc_4
    refine WP_skip ?_
    refine T_n ?_
    refine WP_seq ?_
    refine WP_block ?_
    refine WP_seq ?_
    refine WP_region ?_
    obtain ⟨x_5, hx_5⟩ : ∃ x, (l0)[k]? = some x := ⟨_, List.getElem?_eq_getElem (by first | omega | (simp; done) | (simp; omega) | (simp_all; omega))⟩
    obtain ⟨p_6, hp_6, qp_6⟩ := RdP2.at h0 hx_5
    refine S_v E rfl (R_idx E rfl rfl T51 hp_6 rfl) rfl ?_
    clear E a; intro a E
    refine S_v E rfl (R_loadA (cs := [.int .i64 x_5.1, .int .i64 x_5.2]) E rfl (Try.isAgg55 _) (Try.sizeOf55 _) S.imm qp_6) rfl ?_
    clear E a; intro a E
    refine S_x (X_alloc (cs := #[.int .i64 0, .int .i64 0]) E S rfl Try.zeroValue55 rfl ?_)
    clear E a S; rintro a w b_7 E S
    refine S_x0 (X_storeG (us := [.int .i64 x_5.1, .int .i64 x_5.2]) E S rfl rfl (Try.sizeOf55 _) rfl (by intro u hu; simp only [List.mem_cons, List.not_mem_nil, or_false] at hu; rcases hu with rfl | rfl <;> first | exact rfl | exact rfl) ?_)
    clear E a S; rintro a w E S
    replace S : St w M_3 (blk b_7 (.cells #[.int .i64 x_5.1, .int .i64 x_5.2] 55) :: _) := S
    have S0 := S; clear S
    obtain ⟨M_8, hM_8, hb_9, S⟩ := S0.freezeB
    clear S0
    replace h0 := h0.le RP2_mono hM_8
    replace hr4 := hr4.le RP2_mono hM_8
    refine WL_nil ?_
    refine T_n ?_
    refine WP_region ?_
    refine S_v E rfl (R_move E rfl) rfl ?_
    clear E a; intro a E
    refine S_v E rfl (R_fieldAddr E rfl (FA55_0 _)) rfl ?_
    clear E a; intro a E
    refine S_v E rfl (R_loadM E rfl Try.isAgg3 S.imm (cellM_boxo hb_9 rfl)) rfl ?_
    clear E a; intro a E
    refine S_v E rfl (R_fieldAddr E rfl (FA55_1 _)) rfl ?_
    clear E a; intro a E
    refine S_v E rfl (R_loadM E rfl Try.isAgg3 S.imm (cellM_boxo hb_9 rfl)) rfl ?_
    clear E a; intro a E
    refine S_v E rfl (R_build (u := .agg #[.int .i64 x_5.1, .int .i64 x_5.2]) (vs := [.int .i64 x_5.1, .int .i64 x_5.2]) E rfl (fun w => FB106_0_1_ii x_5.1 x_5.2 w)) rfl ?_
    clear E a; intro a E
    refine S_x (X_buildA1 (R := RP2) (cs := [.int .i64 x_5.1, .int .i64 x_5.2]) (x0 := x_5) RP2_mono E S rfl T104 rfl rfl rfl rfl ?_)
    clear E a S; rintro a v_10 w M_11 hM_11 hv_10 S E
    replace h0 := h0.le RP2_mono hM_11
    replace hr4 := hr4.le RP2_mono hM_11
    replace hb_9 := hM_11.2 _ _ hb_9
    refine S_x (X_appendR (R := RP2) (zs := (l0).take k) (ys := [x_5]) E S hr4 rfl rfl rfl T104 hv_10 one_RP2 (by (simp only [List.length_take, List.length_map, List.length_cons, List.length_nil]; omega)) (by (simp only [List.length_take, List.length_map, List.length_cons, List.length_nil]; omega)) ?_)
    clear E a S; rintro a w v_12 xs_13 E hr_14 S
    refine S_v E rfl (R_assign E rfl) rfl ?_
    clear E a; intro a E
    refine WL_nil ?_
    refine B_n ?_
    refine T_n ?_
    refine WP_region ?_
    refine S_v E rfl (R_addx (m := ((k + 1 : Nat) : Int)) E rfl rfl (by omega) (by omega)) rfl ?_
    clear E a; intro a E
    refine S_v E rfl (R_move E rfl) rfl ?_
    clear E a; intro a E
    refine WL_nil ?_
    refine T_n ?_
    have hre : ((l0).take k) ++ [x_5] = (l0).take (k + 1) := by first | (simp; done) | exact (tk_snoc (by assumption)).symm
    replace S := S.reR hre
    replace hr_14 := hr_14.eq hre
    clear hre
    exact ⟨k + 1, ⟨M_11, _, _, (hM_3.trans (hM_8.trans hM_11)), S, E.keep ⟨rfl, rfl, rfl, rfl, trivial⟩, by ((try clear S); (try clear E); first | assumption | omega | rfl | (simp; done) | (simp_all; done) | (simp [List.take_add_one, *]; done) | grind [List.take_add_one]), hr_14⟩, by omega⟩
  · replace hc_4 := of_decide_eq_false hc_4
    refine WP_exit ?_
    refine T_x ?_
    refine T_x ?_
    refine B_x ?_
    refine T_n ?_
    refine WP_seq ?_
    refine WP_region ?_
    refine S_v E rfl (R_move E rfl) rfl ?_
    clear E a; intro a E
    have S0 := S; clear S
    obtain ⟨M_15, hM_15, hz_16, S⟩ := S0.freezeR hr4 RP2_mono (by (first | omega | (simp; done) | (simp only [List.length_take, List.length_map]; omega)))
    clear S0
    replace h0 := h0.le RP2_mono hM_15
    refine S_x (X_pu E S rfl rfl rfl (lo_Unzip2 hz_16 (by (first | omega | (simp; omega) | (simp; done) | (simp_all; omega) | grind))) (Hp.le.refl _) ?_)
    clear E a S; rintro a _ w M_17 hM_17 ⟨v_18, v_19, rfl, hv_18, hv_19⟩ S E
    replace h0 := h0.le RP2_mono hM_17
    replace hz_16 := hz_16.le RP2_mono hM_17
    refine S_v E rfl (R_extract E rfl rfl) rfl ?_
    clear E a; intro a E
    refine S_v E rfl (R_extract E rfl rfl) rfl ?_
    clear E a; intro a E
    refine S_v E rfl (R_assign E rfl) rfl ?_
    clear E a; intro a E
    refine S_v E rfl (R_assign E rfl) rfl ?_
    clear E a; intro a E
    refine WL_nil ?_
    refine T_n ?_
    refine WP_ret ?_
    exact F_ret2 E Try.results64 rfl rfl ⟨_, rfl, M_17, (hM_3.trans (hM_15.trans hM_17)), ⟨_, _, rfl, (by rw [show ((l0).map (fun p => p.1)) = (((l0).take k).map (fun p => p.1)) from by (rw [List.take_of_length_le (by omega)])]; exact hv_18), (by rw [show ((l0).map (fun p => p.2)) = (((l0).take k).map (fun p => p.2)) from by (rw [List.take_of_length_le (by omega)])]; exact hv_19)⟩, S⟩

set_option maxRecDepth 100000 in
set_option maxHeartbeats 4000000 in
theorem lo_Zip3 {M : Hp} {v0 v1 v2 : Value} {l0 l1 l2 : List Int} (h0 : RdI M v0 l0) (h1 : RdI M v1 l1) (h2 : RdI M v2 l2) (hb0 : l0.length ≤ 1000000) (hb1 : l1.length ≤ 1000000) (hb2 : l2.length ≤ 1000000) :
    Pu Try.prog (.func (.func 118) #[] #[]) M [v0, v1, v2] (fun r M' => RdS 3 RP3 M' r (zi3 (max (max l0.length l1.length) l2.length) l0 l1 l2)) := by
  refine Pu_enter Try.func118 rfl Try.ntmps118 rfl Try.call118 ?_
  intro a w M1 H hM1 S E
  replace h0 := h0.le hM1
  replace h1 := h1.le hM1
  replace h2 := h2.le hM1
  have b0 := h0.bound
  have b1 := h1.bound
  have b2 := h2.bound
  refine WP_seq ?_
  refine WP_region ?_
  refine S_v E rfl (R_assign E rfl) rfl ?_
  clear E a; intro a E
  refine WL_nil ?_
  refine T_n ?_
  refine WP_seq ?_
  refine WP_region ?_
  refine S_v E rfl (R_move E rfl) rfl ?_
  clear E a; intro a E
  refine S_v E rfl (R_lenV E rfl T24 h0.len) rfl ?_
  clear E a; intro a E
  refine S_v E rfl (R_move E rfl) rfl ?_
  clear E a; intro a E
  refine S_v E rfl (R_lenV E rfl T24 h1.len) rfl ?_
  clear E a; intro a E
  refine S_v E rfl (R_move E rfl) rfl ?_
  clear E a; intro a E
  refine S_v E rfl (R_lenV E rfl T24 h2.len) rfl ?_
  clear E a; intro a E
  refine S_x (X_buildI (ys := [(((l0).length : Nat) : Int), (((l1).length : Nat) : Int), (((l2).length : Nat) : Int)]) E S rfl T24 rfl rfl rfl ?_)
  clear E a S; rintro a w v_1 E S
  have S0 := S; clear S
  obtain ⟨M_2, hM_2, hz_3, S⟩ := S0.freezeI (by (first | omega | (simp; done) | (simp; omega) | (simp [zp3_len]; omega)))
  clear S0
  replace h0 := h0.le hM_2
  replace h1 := h1.le hM_2
  replace h2 := h2.le hM_2
  refine S_x (X_pu E S rfl rfl rfl (lo_Max hz_3) (Hp.le.refl _) ?_)
  clear E a S; rintro a _ w M_4 hM_4 rfl S E
  replace h0 := h0.le hM_4
  replace h1 := h1.le hM_4
  replace h2 := h2.le hM_4
  replace hz_3 := hz_3.le hM_4
  replace E := E.ival (t := 17) (c := ((max (max l0.length l1.length) l2.length : Nat) : Int)) rfl (by (exact mx_three _ _ _))
  refine S_v E rfl (R_convm (m := ((max (max l0.length l1.length) l2.length : Nat) : Int)) E rfl Try.underlying3 Try.underlying128 (by first | (rw [u64_wrap]; omega) | (rw [u64_wrap]; simp; omega) | rw [u64_wrap])) rfl ?_
  clear E a; intro a E
  refine S_v E rfl (R_assign E rfl) rfl ?_
  clear E a; intro a E
  refine WL_nil ?_
  refine T_n ?_
  refine WP_seq ?_
  refine WP_region ?_
  refine S_v E rfl (R_move E rfl) rfl ?_
  clear E a; intro a E
  refine S_x (X_makeN (k := max (max l0.length l1.length) l2.length) E S rfl rfl rfl T110 (by omega) (by omega) (by omega) (by omega) ?_)
  clear E a S; rintro a w v_5 E S
  have S0 := S; clear S
  obtain ⟨xs_6, hr_7, S⟩ := St.madeR (R := RP3) (cs := [.int .i64 0, .int .i64 0, .int .i64 0]) (x0 := ((0, 0, 0) : Int × Int × Int)) S0 (by decide) rfl (fun u hu => one_RP3 M_4 _ ((0, 0, 0) : Int × Int × Int) rfl u hu) rfl
  clear S0
  refine S_v E rfl (R_assign E rfl) rfl ?_
  clear E a; intro a E
  refine WL_nil ?_
  refine T_n ?_
  refine WP_seq ?_
  refine WP_seq ?_
  refine WP_region ?_
  refine S_v E rfl (R_assign E rfl) rfl ?_
  clear E a; intro a E
  refine WL_nil ?_
  refine T_n ?_
  refine WP_block ?_
  have hre : (List.replicate (max (max l0.length l1.length) l2.length) ((0, 0, 0) : Int × Int × Int)) = zp3 (max (max l0.length l1.length) l2.length) l0 l1 l2 0 := by first | exact zp3_zero _ _ _ _ | exact zp3_step (by omega) (by assumption) (by assumption)
  replace S := S.reR hre
  replace hr_7 := hr_7.eq hre
  clear hre
  refine WP_loop (γ := Nat) (fun (k : Nat) a w => ∃ (M_8 : Hp) (xs8 : List Value), Hp.le M_4 M_8 ∧ St w M_8 (OwnC 112 3 v_5 (zp3 (max (max l0.length l1.length) l2.length) l0 l1 l2 k).length xs8 :: H) ∧ Env a 48 [] [(0, v0), (1, v1), (2, v2), (7, .int .u64 ((max (max l0.length l1.length) l2.length : Nat) : Int)), (8, v_5), (9, .int .u64 ((k : Nat) : Int))] ∧ (k ≤ max (max l0.length l1.length) l2.length) ∧ RowsR RP3 3 M_8 (zp3 (max (max l0.length l1.length) l2.length) l0 l1 l2 k) xs8) (fun k => max (max l0.length l1.length) l2.length - k) 0 ⟨M_4, _, Hp.le.refl _, S, E.keep ⟨rfl, rfl, rfl, rfl, rfl, rfl, trivial⟩, (by omega), hr_7⟩ ?_
  try clear E
  try clear S
  try clear a
  try clear w
  rintro k a w ⟨M_8, xs8, hM_8, S, E, hL0_0, hr8⟩
  replace h0 := h0.le hM_8
  replace h1 := h1.le hM_8
  replace h2 := h2.le hM_8
  replace hz_3 := hz_3.le hM_8
  refine WP_seq ?_
  refine WP_seq ?_
  refine WP_region ?_
  refine S_v E rfl (R_move E rfl) rfl ?_
  clear E a; intro a E
  refine S_v E rfl (R_move E rfl) rfl ?_
  clear E a; intro a E
  refine S_v E rfl (R_lss E rfl rfl) rfl ?_
  clear E a; intro a E
  refine WL_nil ?_
  refine T_n ?_
  refine WP_cond E rfl (fun hc_9 => ?_) (fun hc_9 => ?_)
  · replace hc_9 := of_decide_eq_true hc_9
    refine WP_skip ?_
    refine T_n ?_
    refine WP_seq ?_
    refine WP_block ?_
    refine WP_seq ?_
    refine WP_region ?_
    refine S_v E rfl (R_move E rfl) rfl ?_
    clear E a; intro a E
    refine S_v E rfl (R_move E rfl) rfl ?_
    clear E a; intro a E
    refine S_v E rfl (R_move E rfl) rfl ?_
    clear E a; intro a E
    refine S_v E rfl (R_move E rfl) rfl ?_
    clear E a; intro a E
    refine S_x (X_pu E S rfl rfl rfl (lo_NthOrEmptyU h0 (by first | omega | (simp; omega))) (Hp.le.refl _) ?_)
    clear E a S; rintro a _ w M_10 hM_10 rfl S E
    replace h0 := h0.le hM_10
    replace h1 := h1.le hM_10
    replace h2 := h2.le hM_10
    replace hz_3 := hz_3.le hM_10
    replace hr8 := hr8.le RP3_mono hM_10
    obtain ⟨p_11, hp_11⟩ := S.ptrC (k := k) (by first | omega | (simp [zp2_len]; omega) | (simp [zp3_len]; omega) | (simp; omega))
    refine S_v E rfl (R_idx E rfl rfl T110 hp_11 rfl) rfl ?_
    clear E a; intro a E
    refine S_v E rfl (R_fieldAddr E rfl (FA112_0 _)) rfl ?_
    clear E a; intro a E
    obtain ⟨x_12, hx_12⟩ : ∃ x, (zp3 (max (max l0.length l1.length) l2.length) l0 l1 l2 k)[k]? = some x := ⟨_, List.getElem?_eq_getElem (by first | omega | (simp [zp2_len]; omega) | (simp [zp3_len]; omega) | (simp; omega))⟩
    refine S_x0 (X_storeF (f := 0) E S rfl rfl (Try.sizeOf3 _) rfl hp_11 rfl ?_)
    clear E a S; rintro a w E S
    have hr_14 := RowsR3.set0 (i := g0 l0 k) hr8 hx_12
    obtain ⟨xs_13, hxs_⟩ : ∃ z, z = (xs8).set (k * 3 + 0) (.int .i64 (g0 l0 k)) := ⟨_, rfl⟩
    rw [← hxs_] at S hr_14
    clear hxs_
    replace S := S.reLen (m' := ((zp3 (max (max l0.length l1.length) l2.length) l0 l1 l2 k).set k (g0 l0 k, x_12.2.1, x_12.2.2)).length) (by rw [List.length_set])
    refine WL_nil ?_
    refine T_n ?_
    refine WP_seq ?_
    refine WP_region ?_
    refine S_v E rfl (R_move E rfl) rfl ?_
    clear E a; intro a E
    refine S_v E rfl (R_move E rfl) rfl ?_
    clear E a; intro a E
    refine S_v E rfl (R_move E rfl) rfl ?_
    clear E a; intro a E
    refine S_v E rfl (R_move E rfl) rfl ?_
    clear E a; intro a E
    refine S_x (X_pu E S rfl rfl rfl (lo_NthOrEmptyU h1 (by first | omega | (simp; omega))) (Hp.le.refl _) ?_)
    clear E a S; rintro a _ w M_15 hM_15 rfl S E
    replace h0 := h0.le hM_15
    replace h1 := h1.le hM_15
    replace h2 := h2.le hM_15
    replace hz_3 := hz_3.le hM_15
    replace hr_14 := hr_14.le RP3_mono hM_15
    refine S_v E rfl (R_idx E rfl rfl T110 hp_11 rfl) rfl ?_
    clear E a; intro a E
    refine S_v E rfl (R_fieldAddr E rfl (FA112_1 _)) rfl ?_
    clear E a; intro a E
    obtain ⟨x_16, hx_16⟩ : ∃ x, ((zp3 (max (max l0.length l1.length) l2.length) l0 l1 l2 k).set k (g0 l0 k, x_12.2.1, x_12.2.2))[k]? = some x := ⟨_, List.getElem?_eq_getElem (by first | omega | (simp [zp2_len]; omega) | (simp [zp3_len]; omega) | (simp; omega))⟩
    refine S_x0 (X_storeF (f := 1) E S rfl rfl (Try.sizeOf3 _) rfl hp_11 rfl ?_)
    clear E a S; rintro a w E S
    have hr_18 := RowsR3.set1 (i := g0 l1 k) hr_14 hx_16
    obtain ⟨xs_17, hxs_⟩ : ∃ z, z = (xs_13).set (k * 3 + 1) (.int .i64 (g0 l1 k)) := ⟨_, rfl⟩
    rw [← hxs_] at S hr_18
    clear hxs_
    replace S := S.reLen (m' := (((zp3 (max (max l0.length l1.length) l2.length) l0 l1 l2 k).set k (g0 l0 k, x_12.2.1, x_12.2.2)).set k (x_16.1, g0 l1 k, x_16.2.2)).length) (by rw [List.length_set])
    refine WL_nil ?_
    refine T_n ?_
    refine WP_region ?_
    refine S_v E rfl (R_move E rfl) rfl ?_
    clear E a; intro a E
    refine S_v E rfl (R_move E rfl) rfl ?_
    clear E a; intro a E
    refine S_v E rfl (R_move E rfl) rfl ?_
    clear E a; intro a E
    refine S_v E rfl (R_move E rfl) rfl ?_
    clear E a; intro a E
    refine S_x (X_pu E S rfl rfl rfl (lo_NthOrEmptyU h2 (by first | omega | (simp; omega))) (Hp.le.refl _) ?_)
    clear E a S; rintro a _ w M_19 hM_19 rfl S E
    replace h0 := h0.le hM_19
    replace h1 := h1.le hM_19
    replace h2 := h2.le hM_19
    replace hz_3 := hz_3.le hM_19
    replace hr_18 := hr_18.le RP3_mono hM_19
    refine S_v E rfl (R_idx E rfl rfl T110 hp_11 rfl) rfl ?_
    clear E a; intro a E
    refine S_v E rfl (R_fieldAddr E rfl (FA112_2 _)) rfl ?_
    clear E a; intro a E
    obtain ⟨x_20, hx_20⟩ : ∃ x, (((zp3 (max (max l0.length l1.length) l2.length) l0 l1 l2 k).set k (g0 l0 k, x_12.2.1, x_12.2.2)).set k (x_16.1, g0 l1 k, x_16.2.2))[k]? = some x := ⟨_, List.getElem?_eq_getElem (by first | omega | (simp [zp2_len]; omega) | (simp [zp3_len]; omega) | (simp; omega))⟩
    refine S_x0 (X_storeF (f := 2) E S rfl rfl (Try.sizeOf3 _) rfl hp_11 rfl ?_)
    clear E a S; rintro a w E S
    have hr_22 := RowsR3.set2 (i := g0 l2 k) hr_18 hx_20
    obtain ⟨xs_21, hxs_⟩ : ∃ z, z = (xs_17).set (k * 3 + 2) (.int .i64 (g0 l2 k)) := ⟨_, rfl⟩
    rw [← hxs_] at S hr_22
    clear hxs_
    replace S := S.reLen (m' := ((((zp3 (max (max l0.length l1.length) l2.length) l0 l1 l2 k).set k (g0 l0 k, x_12.2.1, x_12.2.2)).set k (x_16.1, g0 l1 k, x_16.2.2)).set k (x_20.1, x_20.2.1, g0 l2 k)).length) (by rw [List.length_set])
    refine WL_nil ?_
    refine B_n ?_
    refine T_n ?_
    refine WP_region ?_
    refine S_v E rfl (R_move E rfl) rfl ?_
    clear E a; intro a E
    refine S_v E rfl (R_add E rfl rfl) rfl ?_
    clear E a; intro a E
    refine S_v E rfl (R_assign E rfl) rfl ?_
    clear E a; intro a E
    refine WL_nil ?_
    refine T_n ?_
    have hre : (((zp3 (max (max l0.length l1.length) l2.length) l0 l1 l2 k).set k (g0 l0 k, x_12.2.1, x_12.2.2)).set k (x_16.1, g0 l1 k, x_16.2.2)).set k (x_20.1, x_20.2.1, g0 l2 k) = zp3 (max (max l0.length l1.length) l2.length) l0 l1 l2 (k + 1) := by first | exact zp3_zero _ _ _ _ | exact zp3_step (by omega) (by assumption) (by assumption)
    replace S := S.reR hre
    replace hr_22 := hr_22.eq hre
    clear hre
    exact ⟨k + 1, ⟨M_19, _, (hM_8.trans (hM_10.trans (hM_15.trans hM_19))), S, E.keep ⟨rfl, rfl, rfl, rfl, rfl, look_int (i := (IntKind.u64).wrap (((k : Nat) : Int) + 1)) rfl (by (rw [u64_wrap]; omega)), trivial⟩, (by omega), hr_22⟩, by omega⟩
  · replace hc_9 := of_decide_eq_false hc_9
    refine WP_exit ?_
    refine T_x ?_
    refine T_x ?_
    refine B_x ?_
    refine T_n ?_
    refine WP_seq ?_
    refine WP_region ?_
    refine S_v E rfl (R_move E rfl) rfl ?_
    clear E a; intro a E
    refine S_v E rfl (R_assign E rfl) rfl ?_
    clear E a; intro a E
    refine WL_nil ?_
    refine T_n ?_
    refine WP_ret ?_
    have S0 := S; clear S
    obtain ⟨M_23, hM_23, hz_24, S⟩ := S0.freezeR hr8 RP3_mono (by (first | omega | (simp; done) | (simp; omega) | (simp [zp3_len]; omega)))
    clear S0
    replace h0 := h0.le hM_23
    replace h1 := h1.le hM_23
    replace h2 := h2.le hM_23
    replace hz_3 := hz_3.le hM_23
    exact F_ret1 E Try.results118 rfl ⟨_, rfl, M_23, (hM_2.trans (hM_4.trans (hM_8.trans hM_23))), (by rw [show (zi3 (max (max l0.length l1.length) l2.length) l0 l1 l2) = (zp3 (max (max l0.length l1.length) l2.length) l0 l1 l2 k) from by (exact (zp3_end (m := max (max l0.length l1.length) l2.length) (k := k) (by omega)).symm)]; exact hz_24), S⟩

set_option maxRecDepth 100000 in
set_option maxHeartbeats 4000000 in
theorem impl_Zip3 {M : Hp} {v0 v1 v2 : Value} {l0 l1 l2 : List Int} (h0 : RdI M v0 l0) (h1 : RdI M v1 l1) (h2 : RdI M v2 l2) (hb0 : l0.length ≤ 1000000) (hb1 : l1.length ≤ 1000000) (hb2 : l2.length ≤ 1000000) :
    Pu Try.prog (.func (.func 65) #[] #[]) M [v0, v1, v2] (fun r M' => RdS 3 RP3 M' r (zi3 (max (max l0.length l1.length) l2.length) l0 l1 l2)) := by
  refine Pu_enter Try.func65 rfl Try.ntmps65 rfl Try.call65 ?_
  intro a w M1 H hM1 S E
  replace h0 := h0.le hM1
  replace h1 := h1.le hM1
  replace h2 := h2.le hM1
  have b0 := h0.bound
  have b1 := h1.bound
  have b2 := h2.bound
  have hzl := zi3_len (max (max l0.length l1.length) l2.length) l0 l1 l2
  refine WP_seq ?_
  refine WP_region ?_
  refine S_v E rfl (R_assign E rfl) rfl ?_
  clear E a; intro a E
  refine WL_nil ?_
  refine T_n ?_
  refine WP_seq ?_
  refine WP_region ?_
  refine S_v E rfl (R_assign E rfl) rfl ?_
  clear E a; intro a E
  refine WL_nil ?_
  refine T_n ?_
  refine WP_seq ?_
  refine WP_seq ?_
  refine WP_region ?_
  refine S_v E rfl (R_move E rfl) rfl ?_
  clear E a; intro a E
  refine S_v E rfl (R_move E rfl) rfl ?_
  clear E a; intro a E
  refine S_v E rfl (R_move E rfl) rfl ?_
  clear E a; intro a E
  refine S_x (X_pu E S rfl rfl rfl (lo_Zip3 h0 h1 h2 (by first | omega | (simp; done) | (simp; omega)) (by first | omega | (simp; done) | (simp; omega)) (by first | omega | (simp; done) | (simp; omega))) (Hp.le.refl _) ?_)
  clear E a S; rintro a v_2 w M_1 hM_1 hv_2 S E
  replace h0 := h0.le hM_1
  replace h1 := h1.le hM_1
  replace h2 := h2.le hM_1
  refine S_v E rfl (R_lenV E rfl T110 hv_2.len) rfl ?_
  clear E a; intro a E
  refine S_v E rfl (R_move E rfl) rfl ?_
  clear E a; intro a E
  refine WL_nil ?_
  refine T_n ?_
  refine WP_block ?_
  replace S : St w M_1 (OwnC 64 3 (.slice none 0 0) ([] : List (Int × Int × Int)).length [] :: _) := S.ownNil
  have hr_4 : RowsR RP3 3 M_1 ([] : List (Int × Int × Int)) [] := RowsR.nil
  have hre : ([] : List (Int × Int × Int)) = (zi3 (max (max l0.length l1.length) l2.length) l0 l1 l2).take 0 := by first | (simp; done) | exact (tk_snoc (by assumption)).symm
  replace S := S.reR hre
  replace hr_4 := hr_4.eq hre
  clear hre
  refine WP_loop (γ := Nat) (fun (k : Nat) a w => ∃ (M_5 : Hp) (u7 : Value) (xs7 : List Value), Hp.le M_1 M_5 ∧ St w M_5 (OwnC 64 3 u7 ((zi3 (max (max l0.length l1.length) l2.length) l0 l1 l2).take k).length xs7 :: H) ∧ Env a 31 [] [(7, u7), (13, v_2), (14, .int .i64 (((zi3 (max (max l0.length l1.length) l2.length) l0 l1 l2).length : Nat) : Int)), (15, .int .i64 ((k : Nat) : Int))] ∧ (k ≤ (zi3 (max (max l0.length l1.length) l2.length) l0 l1 l2).length) ∧ RowsR RP3 3 M_5 ((zi3 (max (max l0.length l1.length) l2.length) l0 l1 l2).take k) xs7) (fun k => ((zi3 (max (max l0.length l1.length) l2.length) l0 l1 l2).length) - k) 0 ⟨M_1, _, _, Hp.le.refl _, S, E.keep ⟨rfl, rfl, rfl, rfl, trivial⟩, by ((try clear S); (try clear E); first | assumption | omega | rfl | (simp; done) | (simp_all; done) | (simp [List.take_add_one, *]; done) | grind [List.take_add_one]), hr_4⟩ ?_
  try clear E
  try clear S
  try clear a
  try clear w
  rintro k a w ⟨M_5, u7, xs7, hM_5, S, E, hL0_0, hr7⟩
  replace h0 := h0.le hM_5
  replace h1 := h1.le hM_5
  replace h2 := h2.le hM_5
  replace hv_2 := hv_2.le RP3_mono hM_5
  refine WP_seq ?_
  refine WP_region ?_
  refine S_v E rfl (R_lss E rfl rfl) rfl ?_
  clear E a; intro a E
  refine WL_nil ?_
  refine T_n ?_
  refine WP_seq ?_
  refine WP_cond E rfl (fun hc_6 => ?_) (fun hc_6 => ?_)
  · replace hc_6 := of_decide_eq_true hc_6
    refine WP_skip ?_
    refine T_n ?_
    refine WP_seq ?_
    refine WP_block ?_
    refine WP_seq ?_
    refine WP_region ?_
    obtain ⟨x_7, hx_7⟩ : ∃ x, (zi3 (max (max l0.length l1.length) l2.length) l0 l1 l2)[k]? = some x := ⟨_, List.getElem?_eq_getElem (by first | omega | (simp; done) | (simp; omega) | (simp_all; omega))⟩
    obtain ⟨p_8, hp_8, qp_8⟩ := RdP3.at hv_2 hx_7
    refine S_v E rfl (R_idx E rfl rfl T110 hp_8 rfl) rfl ?_
    clear E a; intro a E
    refine S_v E rfl (R_loadA (cs := [.int .i64 x_7.1, .int .i64 x_7.2.1, .int .i64 x_7.2.2]) E rfl (Try.isAgg112 _) (Try.sizeOf112 _) S.imm qp_8) rfl ?_
    clear E a; intro a E
    refine S_x (X_alloc (cs := #[.int .i64 0, .int .i64 0, .int .i64 0]) E S rfl Try.zeroValue112 rfl ?_)
    clear E a S; rintro a w b_9 E S
    refine S_x0 (X_storeG (us := [.int .i64 x_7.1, .int .i64 x_7.2.1, .int .i64 x_7.2.2]) E S rfl rfl (Try.sizeOf112 _) rfl (by intro u hu; simp only [List.mem_cons, List.not_mem_nil, or_false] at hu; rcases hu with rfl | rfl | rfl <;> first | exact rfl | exact rfl | exact rfl) ?_)
    clear E a S; rintro a w E S
    replace S : St w M_5 (blk b_9 (.cells #[.int .i64 x_7.1, .int .i64 x_7.2.1, .int .i64 x_7.2.2] 112) :: _) := S
    have S0 := S; clear S
    obtain ⟨M_10, hM_10, hb_11, S⟩ := S0.freezeB
    clear S0
    replace h0 := h0.le hM_10
    replace h1 := h1.le hM_10
    replace h2 := h2.le hM_10
    replace hv_2 := hv_2.le RP3_mono hM_10
    replace hr7 := hr7.le RP3_mono hM_10
    refine WL_nil ?_
    refine T_n ?_
    refine WP_region ?_
    refine S_v E rfl (R_move E rfl) rfl ?_
    clear E a; intro a E
    refine S_v E rfl (R_fieldAddr E rfl (FA112_0 _)) rfl ?_
    clear E a; intro a E
    refine S_v E rfl (R_loadM E rfl Try.isAgg3 S.imm (cellM_boxo hb_11 rfl)) rfl ?_
    clear E a; intro a E
    refine S_v E rfl (R_fieldAddr E rfl (FA112_1 _)) rfl ?_
    clear E a; intro a E
    refine S_v E rfl (R_loadM E rfl Try.isAgg3 S.imm (cellM_boxo hb_11 rfl)) rfl ?_
    clear E a; intro a E
    refine S_v E rfl (R_fieldAddr E rfl (FA112_2 _)) rfl ?_
    clear E a; intro a E
    refine S_v E rfl (R_loadM E rfl Try.isAgg3 S.imm (cellM_boxo hb_11 rfl)) rfl ?_
    clear E a; intro a E
    refine S_v E rfl (R_build (u := .agg #[.int .i64 x_7.1, .int .i64 x_7.2.1, .int .i64 x_7.2.2]) (vs := [.int .i64 x_7.1, .int .i64 x_7.2.1, .int .i64 x_7.2.2]) E rfl (fun w => FB64_0_1_2_iii x_7.1 x_7.2.1 x_7.2.2 w)) rfl ?_
    clear E a; intro a E
    refine S_x (X_buildA1 (R := RP3) (cs := [.int .i64 x_7.1, .int .i64 x_7.2.1, .int .i64 x_7.2.2]) (x0 := x_7) RP3_mono E S rfl T56 rfl rfl rfl rfl ?_)
    clear E a S; rintro a v_12 w M_13 hM_13 hv_12 S E
    replace h0 := h0.le hM_13
    replace h1 := h1.le hM_13
    replace h2 := h2.le hM_13
    replace hv_2 := hv_2.le RP3_mono hM_13
    replace hr7 := hr7.le RP3_mono hM_13
    replace hb_11 := hM_13.2 _ _ hb_11
    refine S_x (X_appendR (R := RP3) (zs := (zi3 (max (max l0.length l1.length) l2.length) l0 l1 l2).take k) (ys := [x_7]) E S hr7 rfl rfl rfl T56 hv_12 one_RP3 (by (simp only [List.length_take, List.length_map, List.length_cons, List.length_nil]; omega)) (by (simp only [List.length_take, List.length_map, List.length_cons, List.length_nil]; omega)) ?_)
    clear E a S; rintro a w v_14 xs_15 E hr_16 S
    refine S_v E rfl (R_assign E rfl) rfl ?_
    clear E a; intro a E
    refine WL_nil ?_
    refine B_n ?_
    refine T_n ?_
    refine WP_region ?_
    refine S_v E rfl (R_addx (m := ((k + 1 : Nat) : Int)) E rfl rfl (by omega) (by omega)) rfl ?_
    clear E a; intro a E
    refine S_v E rfl (R_move E rfl) rfl ?_
    clear E a; intro a E
    refine WL_nil ?_
    refine T_n ?_
    have hre : ((zi3 (max (max l0.length l1.length) l2.length) l0 l1 l2).take k) ++ [x_7] = (zi3 (max (max l0.length l1.length) l2.length) l0 l1 l2).take (k + 1) := by first | (simp; done) | exact (tk_snoc (by assumption)).symm
    replace S := S.reR hre
    replace hr_16 := hr_16.eq hre
    clear hre
    exact ⟨k + 1, ⟨M_13, _, _, (hM_5.trans (hM_10.trans hM_13)), S, E.keep ⟨rfl, rfl, rfl, rfl, trivial⟩, by ((try clear S); (try clear E); first | assumption | omega | rfl | (simp; done) | (simp_all; done) | (simp [List.take_add_one, *]; done) | grind [List.take_add_one]), hr_16⟩, by omega⟩
  · replace hc_6 := of_decide_eq_false hc_6
    refine WP_exit ?_
    refine T_x ?_
    refine T_x ?_
    refine B_x ?_
    refine T_n ?_
    refine WP_seq ?_
    refine WP_region ?_
    refine S_v E rfl (R_move E rfl) rfl ?_
    clear E a; intro a E
    refine S_v E rfl (R_assign E rfl) rfl ?_
    clear E a; intro a E
    refine WL_nil ?_
    refine T_n ?_
    refine WP_ret ?_
    have S0 := S; clear S
    obtain ⟨M_17, hM_17, hz_18, S⟩ := S0.freezeR hr7 RP3_mono (by (first | omega | (simp; done) | (simp only [List.length_take, List.length_map]; omega)))
    clear S0
    replace h0 := h0.le hM_17
    replace h1 := h1.le hM_17
    replace h2 := h2.le hM_17
    replace hv_2 := hv_2.le RP3_mono hM_17
    exact F_ret1 E Try.results65 rfl ⟨_, rfl, M_17, (hM_1.trans (hM_5.trans hM_17)), (by rw [show (zi3 (max (max l0.length l1.length) l2.length) l0 l1 l2) = ((zi3 (max (max l0.length l1.length) l2.length) l0 l1 l2).take k) from by (rw [List.take_of_length_le (by omega)])]; exact hz_18), S⟩

set_option maxRecDepth 100000 in
set_option maxHeartbeats 4000000 in
theorem lo_Unzip3 {M : Hp} {v0 : Value} {l0 : List (Int × Int × Int)} (h0 : RdS 3 RP3 M v0 l0) (hb : l0.length ≤ 1000000000000) :
    Pu Try.prog (.func (.func 119) #[] #[]) M [v0] (fun r M' => ∃ t0 t1 t2, r = .tuple #[t0, t1, t2] ∧ RdI M' t0 ((l0).map (fun p => p.1)) ∧ RdI M' t1 ((l0).map (fun p => p.2.1)) ∧ RdI M' t2 ((l0).map (fun p => p.2.2))) := by
  refine Pu_enter Try.func119 rfl Try.ntmps119 rfl Try.call119 ?_
  intro a w M1 H hM1 S E
  replace h0 := h0.le RP3_mono hM1
  have b0 := h0.bound
  refine WP_seq ?_
  refine WP_region ?_
  refine S_v E rfl (R_assign E rfl) rfl ?_
  clear E a; intro a E
  refine S_v E rfl (R_assign E rfl) rfl ?_
  clear E a; intro a E
  refine S_v E rfl (R_assign E rfl) rfl ?_
  clear E a; intro a E
  refine WL_nil ?_
  refine T_n ?_
  refine WP_seq ?_
  refine WP_region ?_
  refine S_v E rfl (R_move E rfl) rfl ?_
  clear E a; intro a E
  refine S_v E rfl (R_lenV E rfl T110 h0.len) rfl ?_
  clear E a; intro a E
  refine S_v E rfl (R_assign E rfl) rfl ?_
  clear E a; intro a E
  refine WL_nil ?_
  refine T_n ?_
  refine WP_seq ?_
  refine WP_region ?_
  refine S_v E rfl (R_move E rfl) rfl ?_
  clear E a; intro a E
  refine S_x (X_make0 (k := (l0).length) E S rfl rfl rfl T24 rfl (by omega) (by omega) (by omega) ?_)
  clear E a S; rintro a w v_1 E S
  replace S := S.made0
  refine S_v E rfl (R_assign E rfl) rfl ?_
  clear E a; intro a E
  refine WL_nil ?_
  refine T_n ?_
  refine WP_seq ?_
  refine WP_region ?_
  refine S_v E rfl (R_move E rfl) rfl ?_
  clear E a; intro a E
  refine S_x (X_make0 (k := (l0).length) E S rfl rfl rfl T24 rfl (by omega) (by omega) (by omega) ?_)
  clear E a S; rintro a w v_2 E S
  replace S := S.made0
  refine S_v E rfl (R_assign E rfl) rfl ?_
  clear E a; intro a E
  refine WL_nil ?_
  refine T_n ?_
  refine WP_seq ?_
  refine WP_region ?_
  refine S_v E rfl (R_move E rfl) rfl ?_
  clear E a; intro a E
  refine S_x (X_make0 (k := (l0).length) E S rfl rfl rfl T24 rfl (by omega) (by omega) (by omega) ?_)
  clear E a S; rintro a w v_3 E S
  replace S := S.made0
  refine S_v E rfl (R_assign E rfl) rfl ?_
  clear E a; intro a E
  refine WL_nil ?_
  refine T_n ?_
  refine WP_seq ?_
  refine WP_seq ?_
  refine WP_region ?_
  refine S_v E rfl (R_move E rfl) rfl ?_
  clear E a; intro a E
  refine S_v E rfl (R_lenV E rfl T110 h0.len) rfl ?_
  clear E a; intro a E
  refine S_v E rfl (R_move E rfl) rfl ?_
  clear E a; intro a E
  refine WL_nil ?_
  refine T_n ?_
  refine WP_block ?_
  replace S := S.front1
  replace S := S.front2
  replace S := S.front2
  replace S := S.re1 (l' := (l0.take 0).map (fun p => p.2.2)) (by first | (simp; done) | (rw [tk_snoc (by assumption), List.map_append]; rfl))
  replace S := S.front2
  replace S := S.re1 (l' := (l0.take 0).map (fun p => p.2.1)) (by first | (simp; done) | (rw [tk_snoc (by assumption), List.map_append]; rfl))
  replace S := S.front2
  replace S := S.re1 (l' := (l0.take 0).map (fun p => p.1)) (by first | (simp; done) | (rw [tk_snoc (by assumption), List.map_append]; rfl))
  refine WP_loop (γ := Nat) (fun (k : Nat) a w => ∃ (M_4 : Hp) (u6 : Value) (u7 : Value) (u8 : Value), Hp.le M1 M_4 ∧ St w M_4 (OwnI 3 u6 ((l0.take k).map (fun p => p.1)) :: OwnI 3 u7 ((l0.take k).map (fun p => p.2.1)) :: OwnI 3 u8 ((l0.take k).map (fun p => p.2.2)) :: H) ∧ Env a 51 [] [(0, v0), (6, u6), (7, u7), (8, u8), (19, .int .i64 (((l0).length : Nat) : Int)), (20, .int .i64 ((k : Nat) : Int))] ∧ (k ≤ (l0).length)) (fun k => ((l0).length) - k) 0 ⟨M1, _, _, _, Hp.le.refl _, S, E.keep ⟨rfl, rfl, rfl, rfl, rfl, rfl, trivial⟩, by ((try clear S); (try clear E); first | assumption | omega | rfl | (simp; done) | (simp_all; done) | (simp [List.take_add_one, *]; done) | grind [List.take_add_one])⟩ ?_
  try clear E
  try clear S
  try clear a
  try clear w
  rintro k a w ⟨M_4, u6, u7, u8, hM_4, S, E, hL0_0⟩
  replace h0 := h0.le RP3_mono hM_4
  refine WP_seq ?_
  refine WP_region ?_
  refine S_v E rfl (R_lss E rfl rfl) rfl ?_
  clear E a; intro a E
  refine WL_nil ?_
  refine T_n ?_
  refine WP_seq ?_
  refine WP_cond E rfl (fun hc_5 => ?_) (fun hc_5 => ?_)
  · replace hc_5 := of_decide_eq_true hc_5
    refine WP_skip ?_
    refine T_n ?_
    refine WP_seq ?_
    refine WP_block ?_
    refine WP_seq ?_
    refine WP_region ?_
    refine S_v E rfl (R_move E rfl) rfl ?_
    clear E a; intro a E
    refine S_v E rfl (R_assign E rfl) rfl ?_
    clear E a; intro a E
    refine WL_nil ?_
    refine T_n ?_
    refine WP_seq ?_
    refine WP_region ?_
    refine S_v E rfl (R_move E rfl) rfl ?_
    clear E a; intro a E
    refine S_v E rfl (R_move E rfl) rfl ?_
    clear E a; intro a E
    refine S_v E rfl (R_move E rfl) rfl ?_
    clear E a; intro a E
    obtain ⟨x_6, hx_6⟩ : ∃ x, (l0)[k]? = some x := ⟨_, List.getElem?_eq_getElem (by first | omega | (simp; done) | (simp; omega) | (simp_all; omega))⟩
    obtain ⟨p_7, hp_7, qp_7⟩ := RdP3.at h0 hx_6
    refine S_v E rfl (R_idx E rfl rfl T110 hp_7 rfl) rfl ?_
    clear E a; intro a E
    have qf_8 := qp_7 0 _ rfl
    refine S_v E rfl (R_fieldAddr E rfl (FA112_0 _)) rfl ?_
    clear E a; intro a E
    refine S_v E rfl (R_loadM E rfl Try.isAgg3 S.imm qf_8) rfl ?_
    clear E a; intro a E
    refine S_x (X_buildI (ys := [x_6.1]) E S rfl T24 rfl rfl rfl ?_)
    clear E a S; rintro a w v_9 E S
    replace S := S.front1
    replace S := S.front1
    refine S_x (X_appendB (xs := (l0.take k).map (fun p => p.1)) (ys := [x_6.1]) E S rfl rfl rfl T24 (by (simp only [List.length_take, List.length_map, List.length_cons, List.length_nil]; omega)) ?_)
    clear E a S; rintro a w v_10 E S
    refine S_v E rfl (R_assign E rfl) rfl ?_
    clear E a; intro a E
    refine WL_nil ?_
    refine T_n ?_
    refine WP_seq ?_
    refine WP_region ?_
    refine S_v E rfl (R_move E rfl) rfl ?_
    clear E a; intro a E
    refine S_v E rfl (R_move E rfl) rfl ?_
    clear E a; intro a E
    refine S_v E rfl (R_move E rfl) rfl ?_
    clear E a; intro a E
    obtain ⟨p_11, hp_11, qp_11⟩ := RdP3.at h0 hx_6
    refine S_v E rfl (R_idx E rfl rfl T110 hp_11 rfl) rfl ?_
    clear E a; intro a E
    have qf_12 := qp_11 1 _ rfl
    refine S_v E rfl (R_fieldAddr E rfl (FA112_1 _)) rfl ?_
    clear E a; intro a E
    refine S_v E rfl (R_loadM E rfl Try.isAgg3 S.imm qf_12) rfl ?_
    clear E a; intro a E
    refine S_x (X_buildI (ys := [x_6.2.1]) E S rfl T24 rfl rfl rfl ?_)
    clear E a S; rintro a w v_13 E S
    replace S := S.front2
    replace S := S.front1
    refine S_x (X_appendB (xs := (l0.take k).map (fun p => p.2.1)) (ys := [x_6.2.1]) E S rfl rfl rfl T24 (by (simp only [List.length_take, List.length_map, List.length_cons, List.length_nil]; omega)) ?_)
    clear E a S; rintro a w v_14 E S
    refine S_v E rfl (R_assign E rfl) rfl ?_
    clear E a; intro a E
    refine WL_nil ?_
    refine T_n ?_
    refine WP_region ?_
    refine S_v E rfl (R_move E rfl) rfl ?_
    clear E a; intro a E
    refine S_v E rfl (R_move E rfl) rfl ?_
    clear E a; intro a E
    refine S_v E rfl (R_move E rfl) rfl ?_
    clear E a; intro a E
    obtain ⟨p_15, hp_15, qp_15⟩ := RdP3.at h0 hx_6
    refine S_v E rfl (R_idx E rfl rfl T110 hp_15 rfl) rfl ?_
    clear E a; intro a E
    have qf_16 := qp_15 2 _ rfl
    refine S_v E rfl (R_fieldAddr E rfl (FA112_2 _)) rfl ?_
    clear E a; intro a E
    refine S_v E rfl (R_loadM E rfl Try.isAgg3 S.imm qf_16) rfl ?_
    clear E a; intro a E
    refine S_x (X_buildI (ys := [x_6.2.2]) E S rfl T24 rfl rfl rfl ?_)
    clear E a S; rintro a w v_17 E S
    replace S := S.front3
    replace S := S.front1
    refine S_x (X_appendB (xs := (l0.take k).map (fun p => p.2.2)) (ys := [x_6.2.2]) E S rfl rfl rfl T24 (by (simp only [List.length_take, List.length_map, List.length_cons, List.length_nil]; omega)) ?_)
    clear E a S; rintro a w v_18 E S
    refine S_v E rfl (R_assign E rfl) rfl ?_
    clear E a; intro a E
    refine WL_nil ?_
    refine B_n ?_
    refine T_n ?_
    refine WP_region ?_
    refine S_v E rfl (R_addx (m := ((k + 1 : Nat) : Int)) E rfl rfl (by omega) (by omega)) rfl ?_
    clear E a; intro a E
    refine S_v E rfl (R_move E rfl) rfl ?_
    clear E a; intro a E
    refine WL_nil ?_
    refine T_n ?_
    replace S := S.front1
    replace S := S.front2
    replace S := S.front2
    replace S := S.re1 (l' := (l0.take (k + 1)).map (fun p => p.2.2)) (by first | (simp; done) | (rw [tk_snoc (by assumption), List.map_append]; rfl))
    replace S := S.front2
    replace S := S.re1 (l' := (l0.take (k + 1)).map (fun p => p.2.1)) (by first | (simp; done) | (rw [tk_snoc (by assumption), List.map_append]; rfl))
    replace S := S.front2
    replace S := S.re1 (l' := (l0.take (k + 1)).map (fun p => p.1)) (by first | (simp; done) | (rw [tk_snoc (by assumption), List.map_append]; rfl))
    exact ⟨k + 1, ⟨M_4, _, _, _, hM_4, S, E.keep ⟨rfl, rfl, rfl, rfl, rfl, rfl, trivial⟩, by ((try clear S); (try clear E); first | assumption | omega | rfl | (simp; done) | (simp_all; done) | (simp [List.take_add_one, *]; done) | grind [List.take_add_one])⟩, by omega⟩
  · replace hc_5 := of_decide_eq_false hc_5
    refine WP_exit ?_
    refine T_x ?_
    refine T_x ?_
    refine B_x ?_
    refine T_n ?_
    refine WP_seq ?_
    refine WP_region ?_
    refine S_v E rfl (R_move E rfl) rfl ?_
    clear E a; intro a E
    refine S_v E rfl (R_move E rfl) rfl ?_
    clear E a; intro a E
    refine S_v E rfl (R_move E rfl) rfl ?_
    clear E a; intro a E
    refine S_v E rfl (R_assign E rfl) rfl ?_
    clear E a; intro a E
    refine S_v E rfl (R_assign E rfl) rfl ?_
    clear E a; intro a E
    refine S_v E rfl (R_assign E rfl) rfl ?_
    clear E a; intro a E
    refine WL_nil ?_
    refine T_n ?_
    refine WP_ret ?_
    have S0 := S; clear S
    obtain ⟨M_19, hM_19, hz_20, S⟩ := S0.freezeI (by (first | omega | (simp; done) | (simp only [List.length_take, List.length_map]; omega)))
    clear S0
    replace h0 := h0.le RP3_mono hM_19
    have S0 := S; clear S
    obtain ⟨M_21, hM_21, hz_22, S⟩ := S0.freezeI (by (first | omega | (simp; done) | (simp only [List.length_take, List.length_map]; omega)))
    clear S0
    replace h0 := h0.le RP3_mono hM_21
    replace hz_20 := hz_20.le hM_21
    have S0 := S; clear S
    obtain ⟨M_23, hM_23, hz_24, S⟩ := S0.freezeI (by (first | omega | (simp; done) | (simp only [List.length_take, List.length_map]; omega)))
    clear S0
    replace h0 := h0.le RP3_mono hM_23
    replace hz_20 := hz_20.le hM_23
    replace hz_22 := hz_22.le hM_23
    exact F_ret3 E Try.results119 rfl rfl rfl ⟨_, rfl, M_23, (hM_4.trans (hM_19.trans (hM_21.trans hM_23))), ⟨_, _, _, rfl, (by rw [show ((l0).map (fun p => p.1)) = ((l0.take k).map (fun p => p.1)) from by (rw [List.take_of_length_le (by omega)])]; exact hz_20), (by rw [show ((l0).map (fun p => p.2.1)) = ((l0.take k).map (fun p => p.2.1)) from by (rw [List.take_of_length_le (by omega)])]; exact hz_22), (by rw [show ((l0).map (fun p => p.2.2)) = ((l0.take k).map (fun p => p.2.2)) from by (rw [List.take_of_length_le (by omega)])]; exact hz_24)⟩, S⟩

set_option maxRecDepth 100000 in
set_option maxHeartbeats 4000000 in
theorem impl_Unzip3 {M : Hp} {v0 : Value} {l0 : List (Int × Int × Int)} (h0 : RdS 3 RP3 M v0 l0) (hb : l0.length ≤ 1000000000000) :
    Pu Try.prog (.func (.func 66) #[] #[]) M [v0] (fun r M' => ∃ t0 t1 t2, r = .tuple #[t0, t1, t2] ∧ RdI M' t0 ((l0).map (fun p => p.1)) ∧ RdI M' t1 ((l0).map (fun p => p.2.1)) ∧ RdI M' t2 ((l0).map (fun p => p.2.2))) := by
  refine Pu_enter Try.func66 rfl Try.ntmps66 rfl Try.call66 ?_
  intro a w M1 H hM1 S E
  replace h0 := h0.le RP3_mono hM1
  have b0 := h0.bound
  refine WP_seq ?_
  refine WP_region ?_
  refine S_v E rfl (R_assign E rfl) rfl ?_
  clear E a; intro a E
  refine S_v E rfl (R_assign E rfl) rfl ?_
  clear E a; intro a E
  refine S_v E rfl (R_assign E rfl) rfl ?_
  clear E a; intro a E
  refine WL_nil ?_
  refine T_n ?_
  refine WP_seq ?_
  refine WP_region ?_
  refine S_v E rfl (R_assign E rfl) rfl ?_
  clear E a; intro a E
  refine WL_nil ?_
  refine T_n ?_
  refine WP_seq ?_
  refine WP_seq ?_
  refine WP_region ?_
  refine S_v E rfl (R_move E rfl) rfl ?_
  clear E a; intro a E
  refine S_v E rfl (R_lenV E rfl T56 h0.len) rfl ?_
  clear E a; intro a E
  refine S_v E rfl (R_move E rfl) rfl ?_
  clear E a; intro a E
  refine WL_nil ?_
  refine T_n ?_
  refine WP_block ?_
  replace S : St w M1 (OwnC 112 3 (.slice none 0 0) ([] : List (Int × Int × Int)).length [] :: _) := S.ownNil
  have hr_2 : RowsR RP3 3 M1 ([] : List (Int × Int × Int)) [] := RowsR.nil
  have hre : ([] : List (Int × Int × Int)) = (l0).take 0 := by first | (simp; done) | exact (tk_snoc (by assumption)).symm
  replace S := S.reR hre
  replace hr_2 := hr_2.eq hre
  clear hre
  refine WP_loop (γ := Nat) (fun (k : Nat) a w => ∃ (M_3 : Hp) (u5 : Value) (xs5 : List Value), Hp.le M1 M_3 ∧ St w M_3 (OwnC 112 3 u5 ((l0).take k).length xs5 :: H) ∧ Env a 30 [] [(5, u5), (8, v0), (9, .int .i64 (((l0).length : Nat) : Int)), (10, .int .i64 ((k : Nat) : Int))] ∧ (k ≤ (l0).length) ∧ RowsR RP3 3 M_3 ((l0).take k) xs5) (fun k => ((l0).length) - k) 0 ⟨M1, _, _, Hp.le.refl _, S, E.keep ⟨rfl, rfl, rfl, rfl, trivial⟩, by ((try clear S); (try clear E); first | assumption | omega | rfl | (simp; done) | (simp_all; done) | (simp [List.take_add_one, *]; done) | grind [List.take_add_one]), hr_2⟩ ?_
  try clear E
  try clear S
  try clear a
  try clear w
  rintro k a w ⟨M_3, u5, xs5, hM_3, S, E, hL0_0, hr5⟩
  replace h0 := h0.le RP3_mono hM_3
  refine WP_seq ?_
  refine WP_region ?_
  refine S_v E rfl (R_lss E rfl rfl) rfl ?_
  clear E a; intro a E
  refine WL_nil ?_
  refine T_n ?_
  refine WP_seq ?_
  refine WP_cond E rfl (fun hc_4 => ?_) (fun hc_4 => ?_)
  · replace hc_4 := of_decide_eq_true hc_4
    refine WP_skip ?_
    refine T_n ?_
    refine WP_seq ?_
    refine WP_block ?_
    refine WP_seq ?_
    refine WP_region ?_
    obtain ⟨x_5, hx_5⟩ : ∃ x, (l0)[k]? = some x := ⟨_, List.getElem?_eq_getElem (by first | omega | (simp; done) | (simp; omega) | (simp_all; omega))⟩
    obtain ⟨p_6, hp_6, qp_6⟩ := RdP3.at h0 hx_5
    refine S_v E rfl (R_idx E rfl rfl T56 hp_6 rfl) rfl ?_
    clear E a; intro a E
    refine S_v E rfl (R_loadA (cs := [.int .i64 x_5.1, .int .i64 x_5.2.1, .int .i64 x_5.2.2]) E rfl (Try.isAgg64 _) (Try.sizeOf64 _) S.imm qp_6) rfl ?_
    clear E a; intro a E
    refine S_x (X_alloc (cs := #[.int .i64 0, .int .i64 0, .int .i64 0]) E S rfl Try.zeroValue64 rfl ?_)
    clear E a S; rintro a w b_7 E S
    refine S_x0 (X_storeG (us := [.int .i64 x_5.1, .int .i64 x_5.2.1, .int .i64 x_5.2.2]) E S rfl rfl (Try.sizeOf64 _) rfl (by intro u hu; simp only [List.mem_cons, List.not_mem_nil, or_false] at hu; rcases hu with rfl | rfl | rfl <;> first | exact rfl | exact rfl | exact rfl) ?_)
    clear E a S; rintro a w E S
    replace S : St w M_3 (blk b_7 (.cells #[.int .i64 x_5.1, .int .i64 x_5.2.1, .int .i64 x_5.2.2] 64) :: _) := S
    have S0 := S; clear S
    obtain ⟨M_8, hM_8, hb_9, S⟩ := S0.freezeB
    clear S0
    replace h0 := h0.le RP3_mono hM_8
    replace hr5 := hr5.le RP3_mono hM_8
    refine WL_nil ?_
    refine T_n ?_
    refine WP_region ?_
    refine S_v E rfl (R_move E rfl) rfl ?_
    clear E a; intro a E
    refine S_v E rfl (R_fieldAddr E rfl (FA64_0 _)) rfl ?_
    clear E a; intro a E
    refine S_v E rfl (R_loadM E rfl Try.isAgg3 S.imm (cellM_boxo hb_9 rfl)) rfl ?_
    clear E a; intro a E
    refine S_v E rfl (R_fieldAddr E rfl (FA64_1 _)) rfl ?_
    clear E a; intro a E
    refine S_v E rfl (R_loadM E rfl Try.isAgg3 S.imm (cellM_boxo hb_9 rfl)) rfl ?_
    clear E a; intro a E
    refine S_v E rfl (R_fieldAddr E rfl (FA64_2 _)) rfl ?_
    clear E a; intro a E
    refine S_v E rfl (R_loadM E rfl Try.isAgg3 S.imm (cellM_boxo hb_9 rfl)) rfl ?_
    clear E a; intro a E
    refine S_v E rfl (R_build (u := .agg #[.int .i64 x_5.1, .int .i64 x_5.2.1, .int .i64 x_5.2.2]) (vs := [.int .i64 x_5.1, .int .i64 x_5.2.1, .int .i64 x_5.2.2]) E rfl (fun w => FB112_0_1_2_iii x_5.1 x_5.2.1 x_5.2.2 w)) rfl ?_
    clear E a; intro a E
    refine S_x (X_buildA1 (R := RP3) (cs := [.int .i64 x_5.1, .int .i64 x_5.2.1, .int .i64 x_5.2.2]) (x0 := x_5) RP3_mono E S rfl T110 rfl rfl rfl rfl ?_)
    clear E a S; rintro a v_10 w M_11 hM_11 hv_10 S E
    replace h0 := h0.le RP3_mono hM_11
    replace hr5 := hr5.le RP3_mono hM_11
    replace hb_9 := hM_11.2 _ _ hb_9
    refine S_x (X_appendR (R := RP3) (zs := (l0).take k) (ys := [x_5]) E S hr5 rfl rfl rfl T110 hv_10 one_RP3 (by (simp only [List.length_take, List.length_map, List.length_cons, List.length_nil]; omega)) (by (simp only [List.length_take, List.length_map, List.length_cons, List.length_nil]; omega)) ?_)
    clear E a S; rintro a w v_12 xs_13 E hr_14 S
    refine S_v E rfl (R_assign E rfl) rfl ?_
    clear E a; intro a E
    refine WL_nil ?_
    refine B_n ?_
    refine T_n ?_
    refine WP_region ?_
    refine S_v E rfl (R_addx (m := ((k + 1 : Nat) : Int)) E rfl rfl (by omega) (by omega)) rfl ?_
    clear E a; intro a E
    refine S_v E rfl (R_move E rfl) rfl ?_
    clear E a; intro a E
    refine WL_nil ?_
    refine T_n ?_
    have hre : ((l0).take k) ++ [x_5] = (l0).take (k + 1) := by first | (simp; done) | exact (tk_snoc (by assumption)).symm
    replace S := S.reR hre
    replace hr_14 := hr_14.eq hre
    clear hre
    exact ⟨k + 1, ⟨M_11, _, _, (hM_3.trans (hM_8.trans hM_11)), S, E.keep ⟨rfl, rfl, rfl, rfl, trivial⟩, by ((try clear S); (try clear E); first | assumption | omega | rfl | (simp; done) | (simp_all; done) | (simp [List.take_add_one, *]; done) | grind [List.take_add_one]), hr_14⟩, by omega⟩
  · replace hc_4 := of_decide_eq_false hc_4
    refine WP_exit ?_
    refine T_x ?_
    refine T_x ?_
    refine B_x ?_
    refine T_n ?_
    refine WP_seq ?_
    refine WP_region ?_
    refine S_v E rfl (R_move E rfl) rfl ?_
    clear E a; intro a E
    have S0 := S; clear S
    obtain ⟨M_15, hM_15, hz_16, S⟩ := S0.freezeR hr5 RP3_mono (by (first | omega | (simp; done) | (simp only [List.length_take, List.length_map]; omega)))
    clear S0
    replace h0 := h0.le RP3_mono hM_15
    refine S_x (X_pu E S rfl rfl rfl (lo_Unzip3 hz_16 (by (first | omega | (simp; omega) | (simp; done) | (simp_all; omega) | grind))) (Hp.le.refl _) ?_)
    clear E a S; rintro a _ w M_17 hM_17 ⟨v_18, v_19, v_20, rfl, hv_18, hv_19, hv_20⟩ S E
    replace h0 := h0.le RP3_mono hM_17
    replace hz_16 := hz_16.le RP3_mono hM_17
    refine S_v E rfl (R_extract E rfl rfl) rfl ?_
    clear E a; intro a E
    refine S_v E rfl (R_extract E rfl rfl) rfl ?_
    clear E a; intro a E
    refine S_v E rfl (R_extract E rfl rfl) rfl ?_
    clear E a; intro a E
    refine S_v E rfl (R_assign E rfl) rfl ?_
    clear E a; intro a E
    refine S_v E rfl (R_assign E rfl) rfl ?_
    clear E a; intro a E
    refine S_v E rfl (R_assign E rfl) rfl ?_
    clear E a; intro a E
    refine WL_nil ?_
    refine T_n ?_
    refine WP_ret ?_
    exact F_ret3 E Try.results66 rfl rfl rfl ⟨_, rfl, M_17, (hM_3.trans (hM_15.trans hM_17)), ⟨_, _, _, rfl, (by rw [show ((l0).map (fun p => p.1)) = (((l0).take k).map (fun p => p.1)) from by (rw [List.take_of_length_le (by omega)])]; exact hv_18), (by rw [show ((l0).map (fun p => p.2.1)) = (((l0).take k).map (fun p => p.2.1)) from by (rw [List.take_of_length_le (by omega)])]; exact hv_19), (by rw [show ((l0).map (fun p => p.2.2)) = (((l0).take k).map (fun p => p.2.2)) from by (rw [List.take_of_length_le (by omega)])]; exact hv_20)⟩, S⟩

set_option maxRecDepth 100000 in
set_option maxHeartbeats 4000000 in
theorem laws_FnZippedF {M : Hp} {v0 : Value} {l0 : List Int} (h0 : RdI M v0 l0){n1 : Nat} (hn : n1 ≤ 1000000) (hb : l0.length ≤ 1000000) :
    Pu Try.prog (.func (.func 63) #[] #[]) M [v0, .int .i64 ((n1 : Nat) : Int)] (fun r M' => RdI M' r (full l0 n1)) := by
  refine Pu_enter Try.func63 rfl Try.ntmps63 rfl Try.call63 ?_
  intro a w M1 H hM1 S E
  replace h0 := h0.le hM1
  have b0 := h0.bound
  refine WP_seq ?_
  refine WP_region ?_
  refine S_v E rfl (R_assign E rfl) rfl ?_
  clear E a; intro a E
  refine WL_nil ?_
  refine T_n ?_
  refine WP_seq ?_
  refine WP_region ?_
  refine S_x (X_buildI (ys := []) E S rfl T24 rfl rfl rfl ?_)
  clear E a S; rintro a w v_1 E S
  refine S_v E rfl (R_move E rfl) rfl ?_
  clear E a; intro a E
  refine S_x (X_appendI (xs := ([] : List Int)) E S rfl rfl rfl T24 h0 (by (first | (simp; done) | (simp; omega) | (simp at *; omega))) ?_)
  clear E a S; rintro a w v_2 E S
  refine S_v E rfl (R_assign E rfl) rfl ?_
  clear E a; intro a E
  refine WL_nil ?_
  refine T_n ?_
  refine WP_seq ?_
  refine WP_block ?_
  replace S := S.re1 (l' := l0 ++ List.replicate 0 (0 : Int)) (by first | (simp; done) | exact full_step _ _)
  refine WP_loop (γ := Nat) (fun (k : Nat) a w => ∃ (M_3 : Hp) (u5 : Value), Hp.le M1 M_3 ∧ St w M_3 (OwnI 3 u5 (l0 ++ List.replicate k (0 : Int)) :: H) ∧ Env a 17 [] [(1, .int .i64 ((n1 : Nat) : Int)), (5, u5)] ∧ (k ≤ n1 - l0.length)) (fun k => n1 - k) 0 ⟨M1, _, Hp.le.refl _, S, E.keep ⟨rfl, rfl, trivial⟩, by ((try clear S); (try clear E); first | assumption | omega | rfl | (simp; done) | (simp_all; done) | (simp [List.take_add_one, *]; done) | grind [List.take_add_one])⟩ ?_
  try clear E
  try clear S
  try clear a
  try clear w
  rintro k a w ⟨M_3, u5, hM_3, S, E, hL0_0⟩
  replace h0 := h0.le hM_3
  have hlen : (l0 ++ List.replicate k (0 : Int)).length = l0.length + k := by simp
  refine WP_seq ?_
  refine WP_seq ?_
  refine WP_region ?_
  refine S_v E rfl (R_move E rfl) rfl ?_
  clear E a; intro a E
  refine S_v E rfl (R_lenV E rfl T24 S.lenC) rfl ?_
  clear E a; intro a E
  refine S_v E rfl (R_move E rfl) rfl ?_
  clear E a; intro a E
  refine S_v E rfl (R_lss E rfl rfl) rfl ?_
  clear E a; intro a E
  refine WL_nil ?_
  refine T_n ?_
  refine WP_cond E rfl (fun hc_4 => ?_) (fun hc_4 => ?_)
  · replace hc_4 := of_decide_eq_true hc_4
    refine WP_skip ?_
    refine T_n ?_
    refine WP_block ?_
    refine WP_region ?_
    refine S_v E rfl (R_move E rfl) rfl ?_
    clear E a; intro a E
    refine S_x (X_buildI (ys := [0]) E S rfl T24 rfl rfl rfl ?_)
    clear E a S; rintro a w v_5 E S
    replace S := S.front1
    replace S := S.front1
    refine S_x (X_appendB (xs := l0 ++ List.replicate k (0 : Int)) (ys := [0]) E S rfl rfl rfl T24 (by (first | (simp; done) | (simp; omega) | (simp at *; omega))) ?_)
    clear E a S; rintro a w v_6 E S
    refine S_v E rfl (R_assign E rfl) rfl ?_
    clear E a; intro a E
    refine WL_nil ?_
    refine B_n ?_
    refine T_n ?_
    replace S := S.re1 (l' := l0 ++ List.replicate (k + 1) (0 : Int)) (by first | (simp; done) | exact full_step _ _)
    exact ⟨k + 1, ⟨M_3, _, hM_3, S, E.keep ⟨rfl, rfl, trivial⟩, by ((try clear S); (try clear E); first | assumption | omega | rfl | (simp; done) | (simp_all; done) | (simp [List.take_add_one, *]; done) | grind [List.take_add_one])⟩, by omega⟩
  · replace hc_4 := of_decide_eq_false hc_4
    refine WP_exit ?_
    refine T_x ?_
    refine T_x ?_
    refine B_x ?_
    refine T_n ?_
    refine WP_seq ?_
    refine WP_region ?_
    refine S_v E rfl (R_move E rfl) rfl ?_
    clear E a; intro a E
    refine S_v E rfl (R_assign E rfl) rfl ?_
    clear E a; intro a E
    refine WL_nil ?_
    refine T_n ?_
    refine WP_ret ?_
    have S0 := S; clear S
    obtain ⟨M_7, hM_7, hz_8, S⟩ := S0.freezeI (by (first | omega | (simp; omega) | (simp at *; omega)))
    clear S0
    replace h0 := h0.le hM_7
    exact F_ret1 E Try.results63 rfl ⟨_, rfl, M_7, (hM_3.trans hM_7), (by rw [show (full l0 n1) = (l0 ++ List.replicate k (0 : Int)) from by first | exact (full_end (n := n1) (k := k) (by omega) (by omega)).symm | exact full_end (n := n1) (k := k) (by omega) (by omega)]; exact hz_8), S⟩

set_option maxRecDepth 100000 in
set_option maxHeartbeats 4000000 in
theorem laws_eq {M : Hp} {v0 v1 : Value} {l0 l1 : List Int} (h0 : RdI M v0 l0) (h1 : RdI M v1 l1) :
    Pu Try.prog (.func (.func 18) #[] #[]) M [v0, v1] (fun r M' => r = .bool (decide (l0 = l1))) := by
  refine Pu_enter Try.func18 rfl Try.ntmps18 rfl Try.call18 ?_
  intro a w M1 H hM1 S E
  replace h0 := h0.le hM1
  replace h1 := h1.le hM1
  have b0 := h0.bound
  have b1 := h1.bound
  refine WP_seq ?_
  refine WP_region ?_
  refine S_v E rfl (R_assign E rfl) rfl ?_
  clear E a; intro a E
  refine WL_nil ?_
  refine T_n ?_
  refine WP_seq ?_
  refine WP_seq ?_
  refine WP_region ?_
  refine S_v E rfl (R_move E rfl) rfl ?_
  clear E a; intro a E
  refine S_v E rfl (R_lenV E rfl T24 h0.len) rfl ?_
  clear E a; intro a E
  refine S_v E rfl (R_move E rfl) rfl ?_
  clear E a; intro a E
  refine S_v E rfl (R_lenV E rfl T24 h1.len) rfl ?_
  clear E a; intro a E
  refine S_v E rfl (R_neq E rfl rfl) rfl ?_
  clear E a; intro a E
  refine WL_nil ?_
  refine T_n ?_
  refine WP_cond E rfl (fun hc_1 => ?_) (fun hc_1 => ?_)
  · replace hc_1 := of_decide_eq_true hc_1
    refine WP_seq ?_
    refine WP_region ?_
    refine S_v E rfl (R_assign E rfl) rfl ?_
    clear E a; intro a E
    refine WL_nil ?_
    refine T_n ?_
    refine WP_ret ?_
    refine T_r ?_
    exact F_ret1 E Try.results18 rfl ⟨_, rfl, M1, (Hp.le.refl _), (bF (by ((try clear S); (try clear E); first | assumption | omega | rfl | (simp; done) | (simp_all; done) | (simp [List.take_add_one, *]; done) | grind [List.take_add_one]))), S⟩
  · replace hc_1 := of_decide_eq_false hc_1
    refine WP_skip ?_
    refine T_n ?_
    refine WP_seq ?_
    refine WP_seq ?_
    refine WP_region ?_
    refine S_v E rfl (R_move E rfl) rfl ?_
    clear E a; intro a E
    refine S_v E rfl (R_lenV E rfl T24 h0.len) rfl ?_
    clear E a; intro a E
    refine S_v E rfl (R_move E rfl) rfl ?_
    clear E a; intro a E
    refine WL_nil ?_
    refine T_n ?_
    refine WP_block ?_
    refine WP_loop (γ := Nat) (fun (k : Nat) a w => ∃ (M_2 : Hp), Hp.le M1 M_2 ∧ St w M_2 (H) ∧ Env a 26 [] [(0, v0), (1, v1), (12, .int .i64 (((l0).length : Nat) : Int)), (13, .int .i64 ((k : Nat) : Int))] ∧ (k ≤ (l0).length) ∧ (l0.length = l1.length) ∧ (l0.take k = l1.take k)) (fun k => ((l0).length) - k) 0 ⟨M1, Hp.le.refl _, S, E.keep ⟨rfl, rfl, rfl, rfl, trivial⟩, by ((try clear S); (try clear E); first | assumption | omega | rfl | (simp; done) | (simp_all; done) | (simp [List.take_add_one, *]; done) | grind [List.take_add_one]), by ((try clear S); (try clear E); first | assumption | omega | rfl | (simp; done) | (simp_all; done) | (simp [List.take_add_one, *]; done) | grind [List.take_add_one]), by ((try clear S); (try clear E); first | assumption | omega | rfl | (simp; done) | (simp_all; done) | (simp [List.take_add_one, *]; done) | grind [List.take_add_one])⟩ ?_
    try clear E
    try clear S
    try clear a
    try clear w
    rintro k a w ⟨M_2, hM_2, S, E, hL0_0, hL0_1, hL0_2⟩
    replace h0 := h0.le hM_2
    replace h1 := h1.le hM_2
    refine WP_seq ?_
    refine WP_region ?_
    refine S_v E rfl (R_lss E rfl rfl) rfl ?_
    clear E a; intro a E
    refine WL_nil ?_
    refine T_n ?_
    refine WP_seq ?_
    refine WP_cond E rfl (fun hc_3 => ?_) (fun hc_3 => ?_)
    · replace hc_3 := of_decide_eq_true hc_3
      refine WP_skip ?_
      refine T_n ?_
      refine WP_seq ?_
      refine WP_block ?_
      refine WP_seq ?_
      refine WP_region ?_
      refine S_v E rfl (R_move E rfl) rfl ?_
      clear E a; intro a E
      refine S_v E rfl (R_assign E rfl) rfl ?_
      clear E a; intro a E
      refine WL_nil ?_
      refine T_n ?_
      refine WP_seq ?_
      replace S := S.mono_heap (w' := World.drew _) rfl
      refine WP_drawn (C := fun x w => agree M_2 w) (bf := (fun i => [])) [0, 1, 2, 3, 4, 5, 6, 7, 8] [0, 1, 2, 3, 4, 5, 6, 7, 8] Try.mixed (by kernel_rfl) (fun x hq => S.imm) ?_
      refine D_v E rfl rfl rfl (fun w hC => (R_move E rfl)) ?_
      clear E a; intro a E
      refine D_v E rfl rfl rfl (fun w hC => (R_move E rfl)) ?_
      clear E a; intro a E
      obtain ⟨x_4, hx_4⟩ : ∃ x, (l0)[k]? = some x := ⟨_, List.getElem?_eq_getElem (by first | omega | (simp; done) | (simp; omega) | (simp_all; omega))⟩
      obtain ⟨p_5, hp_5, qp_5⟩ := h0.at hx_4
      refine D_v E rfl rfl rfl (fun w hC => (R_idx E rfl rfl T24 hp_5 rfl)) ?_
      clear E a; intro a E
      refine D_v E rfl rfl rfl (fun w hC => (R_loadM E rfl Try.isAgg3 hC qp_5)) ?_
      clear E a; intro a E
      refine D_v E rfl rfl rfl (fun w hC => (R_move E rfl)) ?_
      clear E a; intro a E
      refine D_v E rfl rfl rfl (fun w hC => (R_move E rfl)) ?_
      clear E a; intro a E
      obtain ⟨x_6, hx_6⟩ : ∃ x, (l1)[k]? = some x := ⟨_, List.getElem?_eq_getElem (by first | omega | (simp; done) | (simp; omega) | (simp_all; omega))⟩
      obtain ⟨p_7, hp_7, qp_7⟩ := h1.at hx_6
      refine D_v E rfl rfl rfl (fun w hC => (R_idx E rfl rfl T24 hp_7 rfl)) ?_
      clear E a; intro a E
      refine D_v E rfl rfl rfl (fun w hC => (R_loadM E rfl Try.isAgg3 hC qp_7)) ?_
      clear E a; intro a E
      refine D_v E rfl rfl rfl (fun w hC => (R_neq E rfl rfl)) ?_
      clear E a; intro a E
      refine D_end (NoP_n ?_)
      refine T_n ?_
      refine WP_cond E rfl (fun hc_8 => ?_) (fun hc_8 => ?_)
      · replace hc_8 := of_decide_eq_true hc_8
        refine WP_seq ?_
        refine WP_region ?_
        refine S_v E rfl (R_assign E rfl) rfl ?_
        clear E a; intro a E
        refine WL_nil ?_
        refine T_n ?_
        refine WP_ret ?_
        refine B_r ?_
        refine T_r ?_
        refine T_r ?_
        refine B_r ?_
        refine T_r ?_
        exact F_ret1 E Try.results18 rfl ⟨_, rfl, M_2, hM_2, (bF (by ((try clear S); (try clear E); first | assumption | omega | rfl | (simp; done) | (simp_all; done) | (simp [List.take_add_one, *]; done) | grind [List.take_add_one]))), S⟩
      · replace hc_8 := of_decide_eq_false hc_8
        refine WP_skip ?_
        refine B_n ?_
        refine T_n ?_
        refine WP_region ?_
        refine S_v E rfl (R_addx (m := ((k + 1 : Nat) : Int)) E rfl rfl (by omega) (by omega)) rfl ?_
        clear E a; intro a E
        refine S_v E rfl (R_move E rfl) rfl ?_
        clear E a; intro a E
        refine WL_nil ?_
        refine T_n ?_
        exact ⟨k + 1, ⟨M_2, hM_2, S, E.keep ⟨rfl, rfl, rfl, rfl, trivial⟩, by ((try clear S); (try clear E); first | assumption | omega | rfl | (simp; done) | (simp_all; done) | (simp [List.take_add_one, *]; done) | grind [List.take_add_one]), by ((try clear S); (try clear E); first | assumption | omega | rfl | (simp; done) | (simp_all; done) | (simp [List.take_add_one, *]; done) | grind [List.take_add_one]), by ((try clear S); (try clear E); first | assumption | omega | rfl | (simp; done) | (simp_all; done) | (simp [List.take_add_one, *]; done) | grind [List.take_add_one])⟩, by omega⟩
    · replace hc_3 := of_decide_eq_false hc_3
      refine WP_exit ?_
      refine T_x ?_
      refine T_x ?_
      refine B_x ?_
      refine T_n ?_
      refine WP_seq ?_
      refine WP_region ?_
      refine S_v E rfl (R_assign E rfl) rfl ?_
      clear E a; intro a E
      refine WL_nil ?_
      refine T_n ?_
      refine WP_ret ?_
      exact F_ret1 E Try.results18 rfl ⟨_, rfl, M_2, hM_2, (bT (by ((try clear S); (try clear E); first | assumption | omega | rfl | (simp; done) | (simp_all; done) | (simp [List.take_add_one, *]; done) | grind [List.take_add_one]))), S⟩

set_option maxRecDepth 100000 in
set_option maxHeartbeats 4000000 in
theorem laws_modulo {M : Hp} {x0 x1 : Int} (hn : x1 ≠ 0) (g1 : -1099511627776 < x1 ∧ x1 < 1099511627776) :
    Pu Try.prog (.func (.func 84) #[] #[]) M [.int .i64 x0, .int .i64 x1] (fun r M' => r = .int .i64 (x0 % x1)) := by
  refine Pu_enter Try.func84 rfl Try.ntmps84 rfl Try.call84 ?_
  intro a w M1 H hM1 S E
  have ht := tmod_emod x0 x1 hn
  have ht2 := tmod_emod x0 (-x1) (by omega)
  have he : x0 % (-x1) = x0 % x1 := Int.emod_neg ..
  refine WP_seq ?_
  refine WP_region ?_
  refine S_v E rfl (R_assign E rfl) rfl ?_
  clear E a; intro a E
  refine WL_nil ?_
  refine T_n ?_
  refine WP_seq ?_
  refine WP_seq ?_
  refine WP_region ?_
  refine S_v E rfl (R_move E rfl) rfl ?_
  clear E a; intro a E
  refine S_v E rfl (R_lss E rfl rfl) rfl ?_
  clear E a; intro a E
  refine WL_nil ?_
  refine T_n ?_
  refine WP_cond E rfl (fun hc_1 => ?_) (fun hc_1 => ?_)
  · replace hc_1 := of_decide_eq_true hc_1
    refine WP_region ?_
    refine S_v E rfl (R_move E rfl) rfl ?_
    clear E a; intro a E
    refine S_v E rfl (R_negx (m := -x1) E rfl rfl (by omega)) rfl ?_
    clear E a; intro a E
    refine S_v E rfl (R_assign E rfl) rfl ?_
    clear E a; intro a E
    refine WL_nil ?_
    refine T_n ?_
    refine WP_seq ?_
    refine WP_region ?_
    refine S_v E rfl (R_move E rfl) rfl ?_
    clear E a; intro a E
    refine S_v E rfl (R_move E rfl) rfl ?_
    clear E a; intro a E
    refine S_v E rfl (R_rem E rfl rfl (by first | decide | omega)) rfl ?_
    clear E a; intro a E
    refine S_v E rfl (R_assign E rfl) rfl ?_
    clear E a; intro a E
    refine WL_nil ?_
    refine T_n ?_
    refine WP_seq ?_
    refine WP_seq ?_
    refine WP_region ?_
    refine S_v E rfl (R_move E rfl) rfl ?_
    clear E a; intro a E
    refine S_v E rfl (R_lss E rfl rfl) rfl ?_
    clear E a; intro a E
    refine WL_nil ?_
    refine T_n ?_
    refine WP_cond E rfl (fun hc_2 => ?_) (fun hc_2 => ?_)
    · replace hc_2 := of_decide_eq_true hc_2
      refine WP_region ?_
      refine S_v E rfl (R_move E rfl) rfl ?_
      clear E a; intro a E
      refine S_v E rfl (R_move E rfl) rfl ?_
      clear E a; intro a E
      refine S_v E rfl (R_addx (m := (Int.tmod x0 (-x1)) + (-x1)) E rfl rfl (by omega) (by omega)) rfl ?_
      clear E a; intro a E
      refine S_v E rfl (R_assign E rfl) rfl ?_
      clear E a; intro a E
      refine WL_nil ?_
      refine T_n ?_
      refine WP_seq ?_
      refine WP_region ?_
      refine S_v E rfl (R_move E rfl) rfl ?_
      clear E a; intro a E
      refine S_v E rfl (R_assign E rfl) rfl ?_
      clear E a; intro a E
      refine WL_nil ?_
      refine T_n ?_
      refine WP_ret ?_
      exact F_ret1 E Try.results84 rfl ⟨_, rfl, M1, (Hp.le.refl _), (congrArg (Value.int .i64) (by omega)), S⟩
    · replace hc_2 := of_decide_eq_false hc_2
      refine WP_skip ?_
      refine T_n ?_
      refine WP_seq ?_
      refine WP_region ?_
      refine S_v E rfl (R_move E rfl) rfl ?_
      clear E a; intro a E
      refine S_v E rfl (R_assign E rfl) rfl ?_
      clear E a; intro a E
      refine WL_nil ?_
      refine T_n ?_
      refine WP_ret ?_
      exact F_ret1 E Try.results84 rfl ⟨_, rfl, M1, (Hp.le.refl _), (congrArg (Value.int .i64) (by omega)), S⟩
  · replace hc_1 := of_decide_eq_false hc_1
    refine WP_skip ?_
    refine T_n ?_
    refine WP_seq ?_
    refine WP_region ?_
    refine S_v E rfl (R_move E rfl) rfl ?_
    clear E a; intro a E
    refine S_v E rfl (R_move E rfl) rfl ?_
    clear E a; intro a E
    refine S_v E rfl (R_rem E rfl rfl (by first | decide | omega)) rfl ?_
    clear E a; intro a E
    refine S_v E rfl (R_assign E rfl) rfl ?_
    clear E a; intro a E
    refine WL_nil ?_
    refine T_n ?_
    refine WP_seq ?_
    refine WP_seq ?_
    refine WP_region ?_
    refine S_v E rfl (R_move E rfl) rfl ?_
    clear E a; intro a E
    refine S_v E rfl (R_lss E rfl rfl) rfl ?_
    clear E a; intro a E
    refine WL_nil ?_
    refine T_n ?_
    refine WP_cond E rfl (fun hc_3 => ?_) (fun hc_3 => ?_)
    · replace hc_3 := of_decide_eq_true hc_3
      refine WP_region ?_
      refine S_v E rfl (R_move E rfl) rfl ?_
      clear E a; intro a E
      refine S_v E rfl (R_move E rfl) rfl ?_
      clear E a; intro a E
      refine S_v E rfl (R_addx (m := (Int.tmod x0 x1) + x1) E rfl rfl (by omega) (by omega)) rfl ?_
      clear E a; intro a E
      refine S_v E rfl (R_assign E rfl) rfl ?_
      clear E a; intro a E
      refine WL_nil ?_
      refine T_n ?_
      refine WP_seq ?_
      refine WP_region ?_
      refine S_v E rfl (R_move E rfl) rfl ?_
      clear E a; intro a E
      refine S_v E rfl (R_assign E rfl) rfl ?_
      clear E a; intro a E
      refine WL_nil ?_
      refine T_n ?_
      refine WP_ret ?_
      exact F_ret1 E Try.results84 rfl ⟨_, rfl, M1, (Hp.le.refl _), (congrArg (Value.int .i64) (by omega)), S⟩
    · replace hc_3 := of_decide_eq_false hc_3
      refine WP_skip ?_
      refine T_n ?_
      refine WP_seq ?_
      refine WP_region ?_
      refine S_v E rfl (R_move E rfl) rfl ?_
      clear E a; intro a E
      refine S_v E rfl (R_assign E rfl) rfl ?_
      clear E a; intro a E
      refine WL_nil ?_
      refine T_n ?_
      refine WP_ret ?_
      exact F_ret1 E Try.results84 rfl ⟨_, rfl, M1, (Hp.le.refl _), (congrArg (Value.int .i64) (by omega)), S⟩

set_option maxRecDepth 100000 in
set_option maxHeartbeats 4000000 in
theorem laws_stands {M : Hp} {kk0 kn0 : Int} (gk0 : -1099511627776 < kn0 ∧ kn0 < 1099511627776){x1 x2 : Int} :
    Pu Try.prog (.func (.func 25) #[] #[]) M [.agg #[.int .i64 kk0, .int .i64 kn0], .int .i64 x1, .int .i64 x2] (fun r M' => r = .int .i64 (keyAt kk0 kn0 x1 x2)) := by
  refine Pu_enter Try.func25 rfl Try.ntmps25 rfl Try.call25 ?_
  intro a w M1 H hM1 S E
  refine WP_seq ?_
  refine WP_region ?_
  refine S_x (X_box (cs := #[.int .i64 kk0, .int .i64 kn0]) E S rfl rfl rfl ?_)
  clear E a S; rintro a w b_1 E S
  obtain ⟨M_2, hM_2, hb_1, S⟩ := S.freezeB
  refine S_v E rfl (R_assign E rfl) rfl ?_
  clear E a; intro a E
  refine WL_nil ?_
  refine T_n ?_
  refine WP_seq ?_
  refine WP_seq ?_
  refine WP_region ?_
  refine S_v E rfl (R_fieldAddr E rfl (FA31_0 _)) rfl ?_
  clear E a; intro a E
  refine S_v E rfl (R_loadM E rfl Try.isAgg3 S.imm (cellM_boxo hb_1 rfl)) rfl ?_
  clear E a; intro a E
  refine WL_nil ?_
  refine T_n ?_
  refine WP_block ?_
  refine WP_seq ?_
  refine WP_region ?_
  refine S_v E rfl (R_eql E rfl rfl) rfl ?_
  clear E a; intro a E
  refine S_v E rfl (R_assign E rfl) rfl ?_
  clear E a; intro a E
  refine WL_nil ?_
  refine T_n ?_
  refine WP_cond E rfl (fun hc_3 => ?_) (fun hc_3 => ?_)
  · replace hc_3 := of_decide_eq_true hc_3
    refine WP_seq ?_
    refine WP_region ?_
    refine S_v E rfl (R_move E rfl) rfl ?_
    clear E a; intro a E
    refine S_v E rfl (R_fieldAddr E rfl (FA31_1 _)) rfl ?_
    clear E a; intro a E
    refine S_v E rfl (R_loadM E rfl Try.isAgg3 S.imm (cellM_boxo hb_1 rfl)) rfl ?_
    clear E a; intro a E
    refine S_v E rfl (R_add E rfl rfl) rfl ?_
    clear E a; intro a E
    refine S_v E rfl (R_assign E rfl) rfl ?_
    clear E a; intro a E
    refine WL_nil ?_
    refine T_n ?_
    refine WP_ret ?_
    refine B_r ?_
    refine T_r ?_
    exact F_ret1 E Try.results25 rfl ⟨_, rfl, M_2, hM_2, (congrArg (Value.int .i64) (by (clear E S; unfold keyAt w64; first | (simp [*]; done) | (simp_all; done)))), S⟩
  · replace hc_3 := of_decide_eq_false hc_3
    refine WP_seq ?_
    refine WP_region ?_
    refine S_v E rfl (R_eql E rfl rfl) rfl ?_
    clear E a; intro a E
    refine S_v E rfl (R_assign E rfl) rfl ?_
    clear E a; intro a E
    refine WL_nil ?_
    refine T_n ?_
    refine WP_cond E rfl (fun hc_4 => ?_) (fun hc_4 => ?_)
    · replace hc_4 := of_decide_eq_true hc_4
      refine WP_seq ?_
      refine WP_region ?_
      refine S_v E rfl (R_move E rfl) rfl ?_
      clear E a; intro a E
      refine S_v E rfl (R_fieldAddr E rfl (FA31_1 _)) rfl ?_
      clear E a; intro a E
      refine S_v E rfl (R_loadM E rfl Try.isAgg3 S.imm (cellM_boxo hb_1 rfl)) rfl ?_
      clear E a; intro a E
      refine S_v E rfl (R_mul E rfl rfl) rfl ?_
      clear E a; intro a E
      refine S_v E rfl (R_assign E rfl) rfl ?_
      clear E a; intro a E
      refine WL_nil ?_
      refine T_n ?_
      refine WP_ret ?_
      refine B_r ?_
      refine T_r ?_
      exact F_ret1 E Try.results25 rfl ⟨_, rfl, M_2, hM_2, (congrArg (Value.int .i64) (by (clear E S; unfold keyAt w64; first | (simp [*]; done) | (simp_all; done)))), S⟩
    · replace hc_4 := of_decide_eq_false hc_4
      refine WP_seq ?_
      refine WP_region ?_
      refine S_v E rfl (R_eql E rfl rfl) rfl ?_
      clear E a; intro a E
      refine S_v E rfl (R_assign E rfl) rfl ?_
      clear E a; intro a E
      refine WL_nil ?_
      refine T_n ?_
      refine WP_cond E rfl (fun hc_5 => ?_) (fun hc_5 => ?_)
      · replace hc_5 := of_decide_eq_true hc_5
        refine WP_seq ?_
        refine WP_region ?_
        refine S_v E rfl (R_fieldAddr E rfl (FA31_1 _)) rfl ?_
        clear E a; intro a E
        refine S_v E rfl (R_loadM E rfl Try.isAgg3 S.imm (cellM_boxo hb_1 rfl)) rfl ?_
        clear E a; intro a E
        refine S_v E rfl (R_neq E rfl rfl) rfl ?_
        clear E a; intro a E
        refine WL_nil ?_
        refine T_n ?_
        refine WP_cond E rfl (fun hc_6 => ?_) (fun hc_6 => ?_)
        · replace hc_6 := of_decide_eq_true hc_6
          refine WP_seq ?_
          refine WP_region ?_
          refine S_v E rfl (R_move E rfl) rfl ?_
          clear E a; intro a E
          refine S_v E rfl (R_fieldAddr E rfl (FA31_1 _)) rfl ?_
          clear E a; intro a E
          refine S_v E rfl (R_loadM E rfl Try.isAgg3 S.imm (cellM_boxo hb_1 rfl)) rfl ?_
          clear E a; intro a E
          refine S_x (X_pu E S rfl rfl rfl (laws_modulo (by first | omega | assumption) (by omega)) (Hp.le.refl _) ?_)
          clear E a S; rintro a _ w M_7 hM_7 rfl S E
          replace hb_1 := hM_7.2 _ _ hb_1
          refine S_v E rfl (R_assign E rfl) rfl ?_
          clear E a; intro a E
          refine WL_nil ?_
          refine T_n ?_
          refine WP_ret ?_
          refine B_r ?_
          refine T_r ?_
          exact F_ret1 E Try.results25 rfl ⟨_, rfl, M_7, (hM_2.trans hM_7), (congrArg (Value.int .i64) (by (clear E S; unfold keyAt w64; first | (simp [*]; done) | (simp_all; done)))), S⟩
        · replace hc_6 := of_decide_eq_false hc_6
          refine WP_skip ?_
          refine B_n ?_
          refine T_n ?_
          refine WP_seq ?_
          refine WP_region ?_
          refine S_v E rfl (R_move E rfl) rfl ?_
          clear E a; intro a E
          refine S_v E rfl (R_assign E rfl) rfl ?_
          clear E a; intro a E
          refine WL_nil ?_
          refine T_n ?_
          refine WP_ret ?_
          exact F_ret1 E Try.results25 rfl ⟨_, rfl, M_2, hM_2, (congrArg (Value.int .i64) (by (clear E S; unfold keyAt w64; first | (simp [*]; done) | (simp_all; done)))), S⟩
      · replace hc_5 := of_decide_eq_false hc_5
        refine WP_seq ?_
        refine WP_region ?_
        refine S_v E rfl (R_eql E rfl rfl) rfl ?_
        clear E a; intro a E
        refine S_v E rfl (R_assign E rfl) rfl ?_
        clear E a; intro a E
        refine WL_nil ?_
        refine T_n ?_
        refine WP_cond E rfl (fun hc_8 => ?_) (fun hc_8 => ?_)
        · replace hc_8 := of_decide_eq_true hc_8
          refine WP_seq ?_
          refine WP_region ?_
          refine S_v E rfl (R_fieldAddr E rfl (FA31_1 _)) rfl ?_
          clear E a; intro a E
          refine S_v E rfl (R_loadM E rfl Try.isAgg3 S.imm (cellM_boxo hb_1 rfl)) rfl ?_
          clear E a; intro a E
          refine S_v E rfl (R_assign E rfl) rfl ?_
          clear E a; intro a E
          refine WL_nil ?_
          refine T_n ?_
          refine WP_ret ?_
          refine B_r ?_
          refine T_r ?_
          exact F_ret1 E Try.results25 rfl ⟨_, rfl, M_2, hM_2, (congrArg (Value.int .i64) (by (clear E S; unfold keyAt w64; first | (simp [*]; done) | (simp_all; done)))), S⟩
        · replace hc_8 := of_decide_eq_false hc_8
          refine WP_seq ?_
          refine WP_region ?_
          refine S_v E rfl (R_eql E rfl rfl) rfl ?_
          clear E a; intro a E
          refine S_v E rfl (R_assign E rfl) rfl ?_
          clear E a; intro a E
          refine WL_nil ?_
          refine T_n ?_
          refine WP_cond E rfl (fun hc_9 => ?_) (fun hc_9 => ?_)
          · replace hc_9 := of_decide_eq_true hc_9
            refine WP_seq ?_
            refine WP_region ?_
            refine S_v E rfl (R_move E rfl) rfl ?_
            clear E a; intro a E
            refine S_v E rfl (R_assign E rfl) rfl ?_
            clear E a; intro a E
            refine WL_nil ?_
            refine T_n ?_
            refine WP_ret ?_
            refine B_r ?_
            refine T_r ?_
            exact F_ret1 E Try.results25 rfl ⟨_, rfl, M_2, hM_2, (congrArg (Value.int .i64) (by (clear E S; unfold keyAt w64; first | (simp [*]; done) | (simp_all; done)))), S⟩
          · replace hc_9 := of_decide_eq_false hc_9
            refine WP_skip ?_
            refine B_n ?_
            refine T_n ?_
            refine WP_seq ?_
            refine WP_region ?_
            refine S_v E rfl (R_move E rfl) rfl ?_
            clear E a; intro a E
            refine S_v E rfl (R_assign E rfl) rfl ?_
            clear E a; intro a E
            refine WL_nil ?_
            refine T_n ?_
            refine WP_ret ?_
            exact F_ret1 E Try.results25 rfl ⟨_, rfl, M_2, hM_2, (congrArg (Value.int .i64) (by (clear E S; unfold keyAt w64; first | (simp [*]; done) | (simp_all; done)))), S⟩

set_option maxRecDepth 100000 in
set_option maxHeartbeats 4000000 in
theorem spec_Unzip2 {M : Hp} {v0 : Value} {l0 : List (Int × Int)} (h0 : RdS 2 RP2 M v0 l0) (hb : l0.length ≤ 1000000000000) :
    Pu Try.prog (.func (.func 67) #[] #[]) M [v0] (fun r M' => ∃ t0 t1, r = .tuple #[t0, t1] ∧ RdI M' t0 ((l0).map (fun p => p.1)) ∧ RdI M' t1 ((l0).map (fun p => p.2))) := by
  refine Pu_enter Try.func67 rfl Try.ntmps67 rfl Try.call67 ?_
  intro a w M1 H hM1 S E
  replace h0 := h0.le RP2_mono hM1
  have b0 := h0.bound
  refine WP_seq ?_
  refine WP_region ?_
  refine S_v E rfl (R_assign E rfl) rfl ?_
  clear E a; intro a E
  refine S_v E rfl (R_assign E rfl) rfl ?_
  clear E a; intro a E
  refine WL_nil ?_
  refine T_n ?_
  refine WP_seq ?_
  refine WP_seq ?_
  refine WP_region ?_
  refine S_v E rfl (R_move E rfl) rfl ?_
  clear E a; intro a E
  refine S_v E rfl (R_lenV E rfl T61 h0.len) rfl ?_
  clear E a; intro a E
  refine S_v E rfl (R_move E rfl) rfl ?_
  clear E a; intro a E
  refine WL_nil ?_
  refine T_n ?_
  refine WP_block ?_
  replace S := (S.ownNil (e := 3) (sz := 1)).made0
  replace S := (S.ownNil (e := 3) (sz := 1)).made0
  replace S := S.front1
  replace S := S.re1 (l' := (l0.take 0).map (fun p => p.2)) (by first | (simp; done) | (rw [tk_snoc (by assumption), List.map_append]; rfl))
  replace S := S.front1
  replace S := S.re1 (l' := (l0.take 0).map (fun p => p.1)) (by first | (simp; done) | (rw [tk_snoc (by assumption), List.map_append]; rfl))
  refine WP_loop (γ := Nat) (fun (k : Nat) a w => ∃ (M_3 : Hp) (u2 : Value) (u3 : Value), Hp.le M1 M_3 ∧ St w M_3 (OwnI 3 u2 ((l0.take k).map (fun p => p.1)) :: OwnI 3 u3 ((l0.take k).map (fun p => p.2)) :: H) ∧ Env a 25 [] [(2, u2), (3, u3), (6, v0), (7, .int .i64 (((l0).length : Nat) : Int)), (8, .int .i64 ((k : Nat) : Int))] ∧ (k ≤ (l0).length)) (fun k => ((l0).length) - k) 0 ⟨M1, _, _, Hp.le.refl _, S, E.keep ⟨rfl, rfl, rfl, rfl, rfl, trivial⟩, by ((try clear S); (try clear E); first | assumption | omega | rfl | (simp; done) | (simp_all; done) | (simp [List.take_add_one, *]; done) | grind [List.take_add_one])⟩ ?_
  try clear E
  try clear S
  try clear a
  try clear w
  rintro k a w ⟨M_3, u2, u3, hM_3, S, E, hL0_0⟩
  replace h0 := h0.le RP2_mono hM_3
  refine WP_seq ?_
  refine WP_region ?_
  refine S_v E rfl (R_lss E rfl rfl) rfl ?_
  clear E a; intro a E
  refine WL_nil ?_
  refine T_n ?_
  refine WP_seq ?_
  refine WP_cond E rfl (fun hc_4 => ?_) (fun hc_4 => ?_)
  · replace hc_4 := of_decide_eq_true hc_4
    refine WP_skip ?_
    refine T_n ?_
    refine WP_seq ?_
    refine WP_block ?_
    refine WP_seq ?_
    refine WP_region ?_
    obtain ⟨x_5, hx_5⟩ : ∃ x, (l0)[k]? = some x := ⟨_, List.getElem?_eq_getElem (by first | omega | (simp; done) | (simp; omega) | (simp_all; omega))⟩
    obtain ⟨p_6, hp_6, qp_6⟩ := RdP2.at h0 hx_5
    refine S_v E rfl (R_idx E rfl rfl T61 hp_6 rfl) rfl ?_
    clear E a; intro a E
    refine S_v E rfl (R_loadA (cs := [.int .i64 x_5.1, .int .i64 x_5.2]) E rfl (Try.isAgg71 _) (Try.sizeOf71 _) S.imm qp_6) rfl ?_
    clear E a; intro a E
    refine S_x (X_alloc (cs := #[.int .i64 0, .int .i64 0]) E S rfl Try.zeroValue71 rfl ?_)
    clear E a S; rintro a w b_7 E S
    refine S_x0 (X_storeG (us := [.int .i64 x_5.1, .int .i64 x_5.2]) E S rfl rfl (Try.sizeOf71 _) rfl (by intro u hu; simp only [List.mem_cons, List.not_mem_nil, or_false] at hu; rcases hu with rfl | rfl <;> first | exact rfl | exact rfl) ?_)
    clear E a S; rintro a w E S
    replace S : St w M_3 (blk b_7 (.cells #[.int .i64 x_5.1, .int .i64 x_5.2] 71) :: _) := S
    have S0 := S; clear S
    obtain ⟨M_8, hM_8, hb_9, S⟩ := S0.freezeB
    clear S0
    replace h0 := h0.le RP2_mono hM_8
    refine WL_nil ?_
    refine T_n ?_
    refine DG_start Try.mixed ?_
    refine DG_split 3 8 (by decide) (by kernel_rfl) ?_ ?_
    · refine DG_split 4 8 (by decide) (by kernel_rfl) ?_ ?_
      · have qp_6k9 := qp_6
        have hb_9k9 := hb_9
        replace S := S.mono_heap (w' := World.drew _) rfl
        refine DG_end (C := fun x w => agree M_8 w) (bf := (fun i => [])) [0, 1, 2, 5, 6, 7, 10, 11] [0, 1, 2, 5, 6, 7, 3, 4, 8, 9, 10, 11] (by kernel_rfl) (fun x hq => S.imm) ?_
        refine D_v E rfl rfl rfl (fun w hC => (R_move E rfl)) ?_
        clear E a; intro a E
        refine D_v E rfl rfl rfl (fun w hC => (R_fieldAddr E rfl (FA71_0 _))) ?_
        clear E a; intro a E
        refine D_v E rfl rfl rfl (fun w hC => (R_loadM E rfl Try.isAgg3 hC (cellM_boxo hb_9k9 rfl))) ?_
        clear E a; intro a E
        refine D_v E rfl rfl rfl (fun w hC => (R_move E rfl)) ?_
        clear E a; intro a E
        refine D_v E rfl rfl rfl (fun w hC => (R_fieldAddr E rfl (FA71_1 _))) ?_
        clear E a; intro a E
        refine D_v E rfl rfl rfl (fun w hC => (R_loadM E rfl Try.isAgg3 hC (cellM_boxo hb_9k9 rfl))) ?_
        clear E a; intro a E
        refine D_x rfl rfl rfl (X_buildI (ys := [x_5.1]) E S rfl T24 rfl rfl rfl ?_)
        clear E a S; rintro a w v_10 E S
        refine ⟨fun x hq hb => (agree_le (Hp.le.refl _) S.imm), ?_⟩
        replace S := S.front1
        replace S := S.front1
        refine D_x rfl rfl rfl (X_appendB (xs := (l0.take k).map (fun p => p.1)) (ys := [x_5.1]) E S rfl rfl rfl T24 (by (simp only [List.length_take, List.length_map, List.length_cons, List.length_nil]; omega)) ?_)
        clear E a S; rintro a w v_11 E S
        refine ⟨fun x hq hb => (agree_le (Hp.le.refl _) S.imm), ?_⟩
        refine D_x rfl rfl rfl (X_buildI (ys := [x_5.2]) E S rfl T24 rfl rfl rfl ?_)
        clear E a S; rintro a w v_12 E S
        refine ⟨fun x hq hb => (agree_le (Hp.le.refl _) S.imm), ?_⟩
        replace S := S.front2
        replace S := S.front1
        refine D_x rfl rfl rfl (X_appendB (xs := (l0.take k).map (fun p => p.2)) (ys := [x_5.2]) E S rfl rfl rfl T24 (by (simp only [List.length_take, List.length_map, List.length_cons, List.length_nil]; omega)) ?_)
        clear E a S; rintro a w v_13 E S
        refine ⟨fun x hq hb => (agree_le (Hp.le.refl _) S.imm), ?_⟩
        refine D_v E rfl rfl rfl (fun w hC => (R_assign E rfl)) ?_
        clear E a; intro a E
        refine D_v E rfl rfl rfl (fun w hC => (R_assign E rfl)) ?_
        clear E a; intro a E
        refine D_end (NoP_n ?_)
        refine B_n ?_
        refine T_n ?_
        refine WP_region ?_
        refine S_v E rfl (R_addx (m := ((k + 1 : Nat) : Int)) E rfl rfl (by omega) (by omega)) rfl ?_
        clear E a; intro a E
        refine S_v E rfl (R_move E rfl) rfl ?_
        clear E a; intro a E
        refine WL_nil ?_
        refine T_n ?_
        replace S := S.front1
        replace S := S.front1
        replace S := S.re1 (l' := (l0.take (k + 1)).map (fun p => p.2)) (by first | (simp; done) | (rw [tk_snoc (by assumption), List.map_append]; rfl))
        replace S := S.front1
        replace S := S.re1 (l' := (l0.take (k + 1)).map (fun p => p.1)) (by first | (simp; done) | (rw [tk_snoc (by assumption), List.map_append]; rfl))
        exact ⟨k + 1, ⟨M_8, _, _, (hM_3.trans hM_8), S, E.keep ⟨rfl, rfl, rfl, rfl, rfl, trivial⟩, by ((try clear S); (try clear E); first | assumption | omega | rfl | (simp; done) | (simp_all; done) | (simp [List.take_add_one, *]; done) | grind [List.take_add_one])⟩, by omega⟩
      · have qp_6k13 := qp_6
        have hb_9k13 := hb_9
        replace S := S.mono_heap (w' := World.drew _) rfl
        refine DG_end (C := fun x w => agree M_8 w) (bf := (fun i => [])) [0, 1, 2, 5, 6, 7, 10, 11] [0, 1, 2, 5, 6, 7, 3, 8, 4, 9, 10, 11] (by kernel_rfl) (fun x hq => S.imm) ?_
        refine D_v E rfl rfl rfl (fun w hC => (R_move E rfl)) ?_
        clear E a; intro a E
        refine D_v E rfl rfl rfl (fun w hC => (R_fieldAddr E rfl (FA71_0 _))) ?_
        clear E a; intro a E
        refine D_v E rfl rfl rfl (fun w hC => (R_loadM E rfl Try.isAgg3 hC (cellM_boxo hb_9k13 rfl))) ?_
        clear E a; intro a E
        refine D_v E rfl rfl rfl (fun w hC => (R_move E rfl)) ?_
        clear E a; intro a E
        refine D_v E rfl rfl rfl (fun w hC => (R_fieldAddr E rfl (FA71_1 _))) ?_
        clear E a; intro a E
        refine D_v E rfl rfl rfl (fun w hC => (R_loadM E rfl Try.isAgg3 hC (cellM_boxo hb_9k13 rfl))) ?_
        clear E a; intro a E
        refine D_x rfl rfl rfl (X_buildI (ys := [x_5.1]) E S rfl T24 rfl rfl rfl ?_)
        clear E a S; rintro a w v_14 E S
        refine ⟨fun x hq hb => (agree_le (Hp.le.refl _) S.imm), ?_⟩
        refine D_x rfl rfl rfl (X_buildI (ys := [x_5.2]) E S rfl T24 rfl rfl rfl ?_)
        clear E a S; rintro a w v_15 E S
        refine ⟨fun x hq hb => (agree_le (Hp.le.refl _) S.imm), ?_⟩
        replace S := S.front2
        replace S := S.front2
        refine D_x rfl rfl rfl (X_appendB (xs := (l0.take k).map (fun p => p.1)) (ys := [x_5.1]) E S rfl rfl rfl T24 (by (simp only [List.length_take, List.length_map, List.length_cons, List.length_nil]; omega)) ?_)
        clear E a S; rintro a w v_16 E S
        refine ⟨fun x hq hb => (agree_le (Hp.le.refl _) S.imm), ?_⟩
        replace S := S.front2
        replace S := S.front2
        refine D_x rfl rfl rfl (X_appendB (xs := (l0.take k).map (fun p => p.2)) (ys := [x_5.2]) E S rfl rfl rfl T24 (by (simp only [List.length_take, List.length_map, List.length_cons, List.length_nil]; omega)) ?_)
        clear E a S; rintro a w v_17 E S
        refine ⟨fun x hq hb => (agree_le (Hp.le.refl _) S.imm), ?_⟩
        refine D_v E rfl rfl rfl (fun w hC => (R_assign E rfl)) ?_
        clear E a; intro a E
        refine D_v E rfl rfl rfl (fun w hC => (R_assign E rfl)) ?_
        clear E a; intro a E
        refine D_end (NoP_n ?_)
        refine B_n ?_
        refine T_n ?_
        refine WP_region ?_
        refine S_v E rfl (R_addx (m := ((k + 1 : Nat) : Int)) E rfl rfl (by omega) (by omega)) rfl ?_
        clear E a; intro a E
        refine S_v E rfl (R_move E rfl) rfl ?_
        clear E a; intro a E
        refine WL_nil ?_
        refine T_n ?_
        replace S := S.front1
        replace S := S.front1
        replace S := S.re1 (l' := (l0.take (k + 1)).map (fun p => p.2)) (by first | (simp; done) | (rw [tk_snoc (by assumption), List.map_append]; rfl))
        replace S := S.front1
        replace S := S.re1 (l' := (l0.take (k + 1)).map (fun p => p.1)) (by first | (simp; done) | (rw [tk_snoc (by assumption), List.map_append]; rfl))
        exact ⟨k + 1, ⟨M_8, _, _, (hM_3.trans hM_8), S, E.keep ⟨rfl, rfl, rfl, rfl, rfl, trivial⟩, by ((try clear S); (try clear E); first | assumption | omega | rfl | (simp; done) | (simp_all; done) | (simp [List.take_add_one, *]; done) | grind [List.take_add_one])⟩, by omega⟩
    · have qp_6k17 := qp_6
      have hb_9k17 := hb_9
      replace S := S.mono_heap (w' := World.drew _) rfl
      refine DG_end (C := fun x w => agree M_8 w) (bf := (fun i => [])) [0, 1, 2, 5, 6, 7, 10, 11] [0, 1, 2, 5, 6, 7, 8, 3, 4, 9, 10, 11] (by kernel_rfl) (fun x hq => S.imm) ?_
      refine D_v E rfl rfl rfl (fun w hC => (R_move E rfl)) ?_
      clear E a; intro a E
      refine D_v E rfl rfl rfl (fun w hC => (R_fieldAddr E rfl (FA71_0 _))) ?_
      clear E a; intro a E
      refine D_v E rfl rfl rfl (fun w hC => (R_loadM E rfl Try.isAgg3 hC (cellM_boxo hb_9k17 rfl))) ?_
      clear E a; intro a E
      refine D_v E rfl rfl rfl (fun w hC => (R_move E rfl)) ?_
      clear E a; intro a E
      refine D_v E rfl rfl rfl (fun w hC => (R_fieldAddr E rfl (FA71_1 _))) ?_
      clear E a; intro a E
      refine D_v E rfl rfl rfl (fun w hC => (R_loadM E rfl Try.isAgg3 hC (cellM_boxo hb_9k17 rfl))) ?_
      clear E a; intro a E
      refine D_x rfl rfl rfl (X_buildI (ys := [x_5.2]) E S rfl T24 rfl rfl rfl ?_)
      clear E a S; rintro a w v_18 E S
      refine ⟨fun x hq hb => (agree_le (Hp.le.refl _) S.imm), ?_⟩
      refine D_x rfl rfl rfl (X_buildI (ys := [x_5.1]) E S rfl T24 rfl rfl rfl ?_)
      clear E a S; rintro a w v_19 E S
      refine ⟨fun x hq hb => (agree_le (Hp.le.refl _) S.imm), ?_⟩
      replace S := S.front2
      replace S := S.front1
      refine D_x rfl rfl rfl (X_appendB (xs := (l0.take k).map (fun p => p.1)) (ys := [x_5.1]) E S rfl rfl rfl T24 (by (simp only [List.length_take, List.length_map, List.length_cons, List.length_nil]; omega)) ?_)
      clear E a S; rintro a w v_20 E S
      refine ⟨fun x hq hb => (agree_le (Hp.le.refl _) S.imm), ?_⟩
      replace S := S.front2
      replace S := S.front2
      refine D_x rfl rfl rfl (X_appendB (xs := (l0.take k).map (fun p => p.2)) (ys := [x_5.2]) E S rfl rfl rfl T24 (by (simp only [List.length_take, List.length_map, List.length_cons, List.length_nil]; omega)) ?_)
      clear E a S; rintro a w v_21 E S
      refine ⟨fun x hq hb => (agree_le (Hp.le.refl _) S.imm), ?_⟩
      refine D_v E rfl rfl rfl (fun w hC => (R_assign E rfl)) ?_
      clear E a; intro a E
      refine D_v E rfl rfl rfl (fun w hC => (R_assign E rfl)) ?_
      clear E a; intro a E
      refine D_end (NoP_n ?_)
      refine B_n ?_
      refine T_n ?_
      refine WP_region ?_
      refine S_v E rfl (R_addx (m := ((k + 1 : Nat) : Int)) E rfl rfl (by omega) (by omega)) rfl ?_
      clear E a; intro a E
      refine S_v E rfl (R_move E rfl) rfl ?_
      clear E a; intro a E
      refine WL_nil ?_
      refine T_n ?_
      replace S := S.front1
      replace S := S.front1
      replace S := S.re1 (l' := (l0.take (k + 1)).map (fun p => p.2)) (by first | (simp; done) | (rw [tk_snoc (by assumption), List.map_append]; rfl))
      replace S := S.front1
      replace S := S.re1 (l' := (l0.take (k + 1)).map (fun p => p.1)) (by first | (simp; done) | (rw [tk_snoc (by assumption), List.map_append]; rfl))
      exact ⟨k + 1, ⟨M_8, _, _, (hM_3.trans hM_8), S, E.keep ⟨rfl, rfl, rfl, rfl, rfl, trivial⟩, by ((try clear S); (try clear E); first | assumption | omega | rfl | (simp; done) | (simp_all; done) | (simp [List.take_add_one, *]; done) | grind [List.take_add_one])⟩, by omega⟩
  · replace hc_4 := of_decide_eq_false hc_4
    refine WP_exit ?_
    refine T_x ?_
    refine T_x ?_
    refine B_x ?_
    refine T_n ?_
    refine WP_seq ?_
    refine WP_region ?_
    refine S_v E rfl (R_move E rfl) rfl ?_
    clear E a; intro a E
    refine S_v E rfl (R_move E rfl) rfl ?_
    clear E a; intro a E
    refine S_v E rfl (R_assign E rfl) rfl ?_
    clear E a; intro a E
    refine S_v E rfl (R_assign E rfl) rfl ?_
    clear E a; intro a E
    refine WL_nil ?_
    refine T_n ?_
    refine WP_ret ?_
    have S0 := S; clear S
    obtain ⟨M_22, hM_22, hz_23, S⟩ := S0.freezeI (by (first | omega | (simp; done) | (simp only [List.length_take, List.length_map]; omega)))
    clear S0
    replace h0 := h0.le RP2_mono hM_22
    have S0 := S; clear S
    obtain ⟨M_24, hM_24, hz_25, S⟩ := S0.freezeI (by (first | omega | (simp; done) | (simp only [List.length_take, List.length_map]; omega)))
    clear S0
    replace h0 := h0.le RP2_mono hM_24
    replace hz_23 := hz_23.le hM_24
    exact F_ret2 E Try.results67 rfl rfl ⟨_, rfl, M_24, (hM_3.trans (hM_22.trans hM_24)), ⟨_, _, rfl, (by rw [show ((l0).map (fun p => p.1)) = ((l0.take k).map (fun p => p.1)) from by (rw [List.take_of_length_le (by omega)])]; exact hz_23), (by rw [show ((l0).map (fun p => p.2)) = ((l0.take k).map (fun p => p.2)) from by (rw [List.take_of_length_le (by omega)])]; exact hz_25)⟩, S⟩

set_option maxRecDepth 100000 in
set_option maxHeartbeats 4000000 in
theorem spec_Unzip3 {M : Hp} {v0 : Value} {l0 : List (Int × Int × Int)} (h0 : RdS 3 RP3 M v0 l0) (hb : l0.length ≤ 1000000000000) :
    Pu Try.prog (.func (.func 68) #[] #[]) M [v0] (fun r M' => ∃ t0 t1 t2, r = .tuple #[t0, t1, t2] ∧ RdI M' t0 ((l0).map (fun p => p.1)) ∧ RdI M' t1 ((l0).map (fun p => p.2.1)) ∧ RdI M' t2 ((l0).map (fun p => p.2.2))) := by
  refine Pu_enter Try.func68 rfl Try.ntmps68 rfl Try.call68 ?_
  intro a w M1 H hM1 S E
  replace h0 := h0.le RP3_mono hM1
  have b0 := h0.bound
  refine WP_seq ?_
  refine WP_region ?_
  refine S_v E rfl (R_assign E rfl) rfl ?_
  clear E a; intro a E
  refine S_v E rfl (R_assign E rfl) rfl ?_
  clear E a; intro a E
  refine S_v E rfl (R_assign E rfl) rfl ?_
  clear E a; intro a E
  refine WL_nil ?_
  refine T_n ?_
  refine WP_seq ?_
  refine WP_seq ?_
  refine WP_region ?_
  refine S_v E rfl (R_move E rfl) rfl ?_
  clear E a; intro a E
  refine S_v E rfl (R_lenV E rfl T58 h0.len) rfl ?_
  clear E a; intro a E
  refine S_v E rfl (R_move E rfl) rfl ?_
  clear E a; intro a E
  refine WL_nil ?_
  refine T_n ?_
  refine WP_block ?_
  replace S := (S.ownNil (e := 3) (sz := 1)).made0
  replace S := (S.ownNil (e := 3) (sz := 1)).made0
  replace S := (S.ownNil (e := 3) (sz := 1)).made0
  replace S := S.front2
  replace S := S.re1 (l' := (l0.take 0).map (fun p => p.2.2)) (by first | (simp; done) | (rw [tk_snoc (by assumption), List.map_append]; rfl))
  replace S := S.front2
  replace S := S.re1 (l' := (l0.take 0).map (fun p => p.2.1)) (by first | (simp; done) | (rw [tk_snoc (by assumption), List.map_append]; rfl))
  replace S := S.front2
  replace S := S.re1 (l' := (l0.take 0).map (fun p => p.1)) (by first | (simp; done) | (rw [tk_snoc (by assumption), List.map_append]; rfl))
  refine WP_loop (γ := Nat) (fun (k : Nat) a w => ∃ (M_4 : Hp) (u2 : Value) (u3 : Value) (u4 : Value), Hp.le M1 M_4 ∧ St w M_4 (OwnI 3 u2 ((l0.take k).map (fun p => p.1)) :: OwnI 3 u3 ((l0.take k).map (fun p => p.2.1)) :: OwnI 3 u4 ((l0.take k).map (fun p => p.2.2)) :: H) ∧ Env a 32 [] [(2, u2), (3, u3), (4, u4), (7, v0), (8, .int .i64 (((l0).length : Nat) : Int)), (9, .int .i64 ((k : Nat) : Int))] ∧ (k ≤ (l0).length)) (fun k => ((l0).length) - k) 0 ⟨M1, _, _, _, Hp.le.refl _, S, E.keep ⟨rfl, rfl, rfl, rfl, rfl, rfl, trivial⟩, by ((try clear S); (try clear E); first | assumption | omega | rfl | (simp; done) | (simp_all; done) | (simp [List.take_add_one, *]; done) | grind [List.take_add_one])⟩ ?_
  try clear E
  try clear S
  try clear a
  try clear w
  rintro k a w ⟨M_4, u2, u3, u4, hM_4, S, E, hL0_0⟩
  replace h0 := h0.le RP3_mono hM_4
  refine WP_seq ?_
  refine WP_region ?_
  refine S_v E rfl (R_lss E rfl rfl) rfl ?_
  clear E a; intro a E
  refine WL_nil ?_
  refine T_n ?_
  refine WP_seq ?_
  refine WP_cond E rfl (fun hc_5 => ?_) (fun hc_5 => ?_)
  · replace hc_5 := of_decide_eq_true hc_5
    refine WP_skip ?_
    refine T_n ?_
    refine WP_seq ?_
    refine WP_block ?_
    refine WP_seq ?_
    refine WP_region ?_
    obtain ⟨x_6, hx_6⟩ : ∃ x, (l0)[k]? = some x := ⟨_, List.getElem?_eq_getElem (by first | omega | (simp; done) | (simp; omega) | (simp_all; omega))⟩
    obtain ⟨p_7, hp_7, qp_7⟩ := RdP3.at h0 hx_6
    refine S_v E rfl (R_idx E rfl rfl T58 hp_7 rfl) rfl ?_
    clear E a; intro a E
    refine S_v E rfl (R_loadA (cs := [.int .i64 x_6.1, .int .i64 x_6.2.1, .int .i64 x_6.2.2]) E rfl (Try.isAgg72 _) (Try.sizeOf72 _) S.imm qp_7) rfl ?_
    clear E a; intro a E
    refine S_x (X_alloc (cs := #[.int .i64 0, .int .i64 0, .int .i64 0]) E S rfl Try.zeroValue72 rfl ?_)
    clear E a S; rintro a w b_8 E S
    refine S_x0 (X_storeG (us := [.int .i64 x_6.1, .int .i64 x_6.2.1, .int .i64 x_6.2.2]) E S rfl rfl (Try.sizeOf72 _) rfl (by intro u hu; simp only [List.mem_cons, List.not_mem_nil, or_false] at hu; rcases hu with rfl | rfl | rfl <;> first | exact rfl | exact rfl | exact rfl) ?_)
    clear E a S; rintro a w E S
    replace S : St w M_4 (blk b_8 (.cells #[.int .i64 x_6.1, .int .i64 x_6.2.1, .int .i64 x_6.2.2] 72) :: _) := S
    have S0 := S; clear S
    obtain ⟨M_9, hM_9, hb_10, S⟩ := S0.freezeB
    clear S0
    replace h0 := h0.le RP3_mono hM_9
    refine WL_nil ?_
    refine T_n ?_
    refine DG_start Try.mixed ?_
    refine DG_split 3 8 (by decide) (by kernel_rfl) ?_ ?_
    · refine DG_split 3 13 (by decide) (by kernel_rfl) ?_ ?_
      · refine DG_split 4 8 (by decide) (by kernel_rfl) ?_ ?_
        · refine DG_split 4 13 (by decide) (by kernel_rfl) ?_ ?_
          · refine DG_split 8 13 (by decide) (by kernel_rfl) ?_ ?_
            · refine DG_split 9 13 (by decide) (by kernel_rfl) ?_ ?_
              · have qp_7k10 := qp_7
                have hb_10k10 := hb_10
                replace S := S.mono_heap (w' := World.drew _) rfl
                refine DG_end (C := fun x w => agree M_9 w) (bf := (fun i => [])) [0, 1, 2, 5, 6, 7, 10, 11, 12, 15, 16, 17] [0, 1, 2, 5, 6, 7, 10, 11, 12, 3, 4, 8, 9, 13, 14, 15, 16, 17] (by kernel_rfl) (fun x hq => S.imm) ?_
                refine D_v E rfl rfl rfl (fun w hC => (R_move E rfl)) ?_
                clear E a; intro a E
                refine D_v E rfl rfl rfl (fun w hC => (R_fieldAddr E rfl (FA72_0 _))) ?_
                clear E a; intro a E
                refine D_v E rfl rfl rfl (fun w hC => (R_loadM E rfl Try.isAgg3 hC (cellM_boxo hb_10k10 rfl))) ?_
                clear E a; intro a E
                refine D_v E rfl rfl rfl (fun w hC => (R_move E rfl)) ?_
                clear E a; intro a E
                refine D_v E rfl rfl rfl (fun w hC => (R_fieldAddr E rfl (FA72_1 _))) ?_
                clear E a; intro a E
                refine D_v E rfl rfl rfl (fun w hC => (R_loadM E rfl Try.isAgg3 hC (cellM_boxo hb_10k10 rfl))) ?_
                clear E a; intro a E
                refine D_v E rfl rfl rfl (fun w hC => (R_move E rfl)) ?_
                clear E a; intro a E
                refine D_v E rfl rfl rfl (fun w hC => (R_fieldAddr E rfl (FA72_2 _))) ?_
                clear E a; intro a E
                refine D_v E rfl rfl rfl (fun w hC => (R_loadM E rfl Try.isAgg3 hC (cellM_boxo hb_10k10 rfl))) ?_
                clear E a; intro a E
                refine D_x rfl rfl rfl (X_buildI (ys := [x_6.1]) E S rfl T24 rfl rfl rfl ?_)
                clear E a S; rintro a w v_11 E S
                refine ⟨fun x hq hb => (agree_le (Hp.le.refl _) S.imm), ?_⟩
                replace S := S.front1
                replace S := S.front1
                refine D_x rfl rfl rfl (X_appendB (xs := (l0.take k).map (fun p => p.1)) (ys := [x_6.1]) E S rfl rfl rfl T24 (by (simp only [List.length_take, List.length_map, List.length_cons, List.length_nil]; omega)) ?_)
                clear E a S; rintro a w v_12 E S
                refine ⟨fun x hq hb => (agree_le (Hp.le.refl _) S.imm), ?_⟩
                refine D_x rfl rfl rfl (X_buildI (ys := [x_6.2.1]) E S rfl T24 rfl rfl rfl ?_)
                clear E a S; rintro a w v_13 E S
                refine ⟨fun x hq hb => (agree_le (Hp.le.refl _) S.imm), ?_⟩
                replace S := S.front2
                replace S := S.front1
                refine D_x rfl rfl rfl (X_appendB (xs := (l0.take k).map (fun p => p.2.1)) (ys := [x_6.2.1]) E S rfl rfl rfl T24 (by (simp only [List.length_take, List.length_map, List.length_cons, List.length_nil]; omega)) ?_)
                clear E a S; rintro a w v_14 E S
                refine ⟨fun x hq hb => (agree_le (Hp.le.refl _) S.imm), ?_⟩
                refine D_x rfl rfl rfl (X_buildI (ys := [x_6.2.2]) E S rfl T24 rfl rfl rfl ?_)
                clear E a S; rintro a w v_15 E S
                refine ⟨fun x hq hb => (agree_le (Hp.le.refl _) S.imm), ?_⟩
                replace S := S.front3
                replace S := S.front1
                refine D_x rfl rfl rfl (X_appendB (xs := (l0.take k).map (fun p => p.2.2)) (ys := [x_6.2.2]) E S rfl rfl rfl T24 (by (simp only [List.length_take, List.length_map, List.length_cons, List.length_nil]; omega)) ?_)
                clear E a S; rintro a w v_16 E S
                refine ⟨fun x hq hb => (agree_le (Hp.le.refl _) S.imm), ?_⟩
                refine D_v E rfl rfl rfl (fun w hC => (R_assign E rfl)) ?_
                clear E a; intro a E
                refine D_v E rfl rfl rfl (fun w hC => (R_assign E rfl)) ?_
                clear E a; intro a E
                refine D_v E rfl rfl rfl (fun w hC => (R_assign E rfl)) ?_
                clear E a; intro a E
                refine D_end (NoP_n ?_)
                refine B_n ?_
                refine T_n ?_
                refine WP_region ?_
                refine S_v E rfl (R_addx (m := ((k + 1 : Nat) : Int)) E rfl rfl (by omega) (by omega)) rfl ?_
                clear E a; intro a E
                refine S_v E rfl (R_move E rfl) rfl ?_
                clear E a; intro a E
                refine WL_nil ?_
                refine T_n ?_
                replace S := S.front1
                replace S := S.front2
                replace S := S.front2
                replace S := S.re1 (l' := (l0.take (k + 1)).map (fun p => p.2.2)) (by first | (simp; done) | (rw [tk_snoc (by assumption), List.map_append]; rfl))
                replace S := S.front2
                replace S := S.re1 (l' := (l0.take (k + 1)).map (fun p => p.2.1)) (by first | (simp; done) | (rw [tk_snoc (by assumption), List.map_append]; rfl))
                replace S := S.front2
                replace S := S.re1 (l' := (l0.take (k + 1)).map (fun p => p.1)) (by first | (simp; done) | (rw [tk_snoc (by assumption), List.map_append]; rfl))
                exact ⟨k + 1, ⟨M_9, _, _, _, (hM_4.trans hM_9), S, E.keep ⟨rfl, rfl, rfl, rfl, rfl, rfl, trivial⟩, by ((try clear S); (try clear E); first | assumption | omega | rfl | (simp; done) | (simp_all; done) | (simp [List.take_add_one, *]; done) | grind [List.take_add_one])⟩, by omega⟩
              · have qp_7k16 := qp_7
                have hb_10k16 := hb_10
                replace S := S.mono_heap (w' := World.drew _) rfl
                refine DG_end (C := fun x w => agree M_9 w) (bf := (fun i => [])) [0, 1, 2, 5, 6, 7, 10, 11, 12, 15, 16, 17] [0, 1, 2, 5, 6, 7, 10, 11, 12, 3, 4, 8, 13, 9, 14, 15, 16, 17] (by kernel_rfl) (fun x hq => S.imm) ?_
                refine D_v E rfl rfl rfl (fun w hC => (R_move E rfl)) ?_
                clear E a; intro a E
                refine D_v E rfl rfl rfl (fun w hC => (R_fieldAddr E rfl (FA72_0 _))) ?_
                clear E a; intro a E
                refine D_v E rfl rfl rfl (fun w hC => (R_loadM E rfl Try.isAgg3 hC (cellM_boxo hb_10k16 rfl))) ?_
                clear E a; intro a E
                refine D_v E rfl rfl rfl (fun w hC => (R_move E rfl)) ?_
                clear E a; intro a E
                refine D_v E rfl rfl rfl (fun w hC => (R_fieldAddr E rfl (FA72_1 _))) ?_
                clear E a; intro a E
                refine D_v E rfl rfl rfl (fun w hC => (R_loadM E rfl Try.isAgg3 hC (cellM_boxo hb_10k16 rfl))) ?_
                clear E a; intro a E
                refine D_v E rfl rfl rfl (fun w hC => (R_move E rfl)) ?_
                clear E a; intro a E
                refine D_v E rfl rfl rfl (fun w hC => (R_fieldAddr E rfl (FA72_2 _))) ?_
                clear E a; intro a E
                refine D_v E rfl rfl rfl (fun w hC => (R_loadM E rfl Try.isAgg3 hC (cellM_boxo hb_10k16 rfl))) ?_
                clear E a; intro a E
                refine D_x rfl rfl rfl (X_buildI (ys := [x_6.1]) E S rfl T24 rfl rfl rfl ?_)
                clear E a S; rintro a w v_17 E S
                refine ⟨fun x hq hb => (agree_le (Hp.le.refl _) S.imm), ?_⟩
                replace S := S.front1
                replace S := S.front1
                refine D_x rfl rfl rfl (X_appendB (xs := (l0.take k).map (fun p => p.1)) (ys := [x_6.1]) E S rfl rfl rfl T24 (by (simp only [List.length_take, List.length_map, List.length_cons, List.length_nil]; omega)) ?_)
                clear E a S; rintro a w v_18 E S
                refine ⟨fun x hq hb => (agree_le (Hp.le.refl _) S.imm), ?_⟩
                refine D_x rfl rfl rfl (X_buildI (ys := [x_6.2.1]) E S rfl T24 rfl rfl rfl ?_)
                clear E a S; rintro a w v_19 E S
                refine ⟨fun x hq hb => (agree_le (Hp.le.refl _) S.imm), ?_⟩
                refine D_x rfl rfl rfl (X_buildI (ys := [x_6.2.2]) E S rfl T24 rfl rfl rfl ?_)
                clear E a S; rintro a w v_20 E S
                refine ⟨fun x hq hb => (agree_le (Hp.le.refl _) S.imm), ?_⟩
                replace S := S.front3
                replace S := S.front2
                refine D_x rfl rfl rfl (X_appendB (xs := (l0.take k).map (fun p => p.2.1)) (ys := [x_6.2.1]) E S rfl rfl rfl T24 (by (simp only [List.length_take, List.length_map, List.length_cons, List.length_nil]; omega)) ?_)
                clear E a S; rintro a w v_21 E S
                refine ⟨fun x hq hb => (agree_le (Hp.le.refl _) S.imm), ?_⟩
                replace S := S.front3
                replace S := S.front2
                refine D_x rfl rfl rfl (X_appendB (xs := (l0.take k).map (fun p => p.2.2)) (ys := [x_6.2.2]) E S rfl rfl rfl T24 (by (simp only [List.length_take, List.length_map, List.length_cons, List.length_nil]; omega)) ?_)
                clear E a S; rintro a w v_22 E S
                refine ⟨fun x hq hb => (agree_le (Hp.le.refl _) S.imm), ?_⟩
                refine D_v E rfl rfl rfl (fun w hC => (R_assign E rfl)) ?_
                clear E a; intro a E
                refine D_v E rfl rfl rfl (fun w hC => (R_assign E rfl)) ?_
                clear E a; intro a E
                refine D_v E rfl rfl rfl (fun w hC => (R_assign E rfl)) ?_
                clear E a; intro a E
                refine D_end (NoP_n ?_)
                refine B_n ?_
                refine T_n ?_
                refine WP_region ?_
                refine S_v E rfl (R_addx (m := ((k + 1 : Nat) : Int)) E rfl rfl (by omega) (by omega)) rfl ?_
                clear E a; intro a E
                refine S_v E rfl (R_move E rfl) rfl ?_
                clear E a; intro a E
                refine WL_nil ?_
                refine T_n ?_
                replace S := S.front1
                replace S := S.front2
                replace S := S.front2
                replace S := S.re1 (l' := (l0.take (k + 1)).map (fun p => p.2.2)) (by first | (simp; done) | (rw [tk_snoc (by assumption), List.map_append]; rfl))
                replace S := S.front2
                replace S := S.re1 (l' := (l0.take (k + 1)).map (fun p => p.2.1)) (by first | (simp; done) | (rw [tk_snoc (by assumption), List.map_append]; rfl))
                replace S := S.front2
                replace S := S.re1 (l' := (l0.take (k + 1)).map (fun p => p.1)) (by first | (simp; done) | (rw [tk_snoc (by assumption), List.map_append]; rfl))
                exact ⟨k + 1, ⟨M_9, _, _, _, (hM_4.trans hM_9), S, E.keep ⟨rfl, rfl, rfl, rfl, rfl, rfl, trivial⟩, by ((try clear S); (try clear E); first | assumption | omega | rfl | (simp; done) | (simp_all; done) | (simp [List.take_add_one, *]; done) | grind [List.take_add_one])⟩, by omega⟩
            · have qp_7k22 := qp_7
              have hb_10k22 := hb_10
              replace S := S.mono_heap (w' := World.drew _) rfl
              refine DG_end (C := fun x w => agree M_9 w) (bf := (fun i => [])) [0, 1, 2, 5, 6, 7, 10, 11, 12, 15, 16, 17] [0, 1, 2, 5, 6, 7, 10, 11, 12, 3, 4, 13, 8, 9, 14, 15, 16, 17] (by kernel_rfl) (fun x hq => S.imm) ?_
              refine D_v E rfl rfl rfl (fun w hC => (R_move E rfl)) ?_
              clear E a; intro a E
              refine D_v E rfl rfl rfl (fun w hC => (R_fieldAddr E rfl (FA72_0 _))) ?_
              clear E a; intro a E
              refine D_v E rfl rfl rfl (fun w hC => (R_loadM E rfl Try.isAgg3 hC (cellM_boxo hb_10k22 rfl))) ?_
              clear E a; intro a E
              refine D_v E rfl rfl rfl (fun w hC => (R_move E rfl)) ?_
              clear E a; intro a E
              refine D_v E rfl rfl rfl (fun w hC => (R_fieldAddr E rfl (FA72_1 _))) ?_
              clear E a; intro a E
              refine D_v E rfl rfl rfl (fun w hC => (R_loadM E rfl Try.isAgg3 hC (cellM_boxo hb_10k22 rfl))) ?_
              clear E a; intro a E
              refine D_v E rfl rfl rfl (fun w hC => (R_move E rfl)) ?_
              clear E a; intro a E
              refine D_v E rfl rfl rfl (fun w hC => (R_fieldAddr E rfl (FA72_2 _))) ?_
              clear E a; intro a E
              refine D_v E rfl rfl rfl (fun w hC => (R_loadM E rfl Try.isAgg3 hC (cellM_boxo hb_10k22 rfl))) ?_
              clear E a; intro a E
              refine D_x rfl rfl rfl (X_buildI (ys := [x_6.1]) E S rfl T24 rfl rfl rfl ?_)
              clear E a S; rintro a w v_23 E S
              refine ⟨fun x hq hb => (agree_le (Hp.le.refl _) S.imm), ?_⟩
              replace S := S.front1
              replace S := S.front1
              refine D_x rfl rfl rfl (X_appendB (xs := (l0.take k).map (fun p => p.1)) (ys := [x_6.1]) E S rfl rfl rfl T24 (by (simp only [List.length_take, List.length_map, List.length_cons, List.length_nil]; omega)) ?_)
              clear E a S; rintro a w v_24 E S
              refine ⟨fun x hq hb => (agree_le (Hp.le.refl _) S.imm), ?_⟩
              refine D_x rfl rfl rfl (X_buildI (ys := [x_6.2.2]) E S rfl T24 rfl rfl rfl ?_)
              clear E a S; rintro a w v_25 E S
              refine ⟨fun x hq hb => (agree_le (Hp.le.refl _) S.imm), ?_⟩
              refine D_x rfl rfl rfl (X_buildI (ys := [x_6.2.1]) E S rfl T24 rfl rfl rfl ?_)
              clear E a S; rintro a w v_26 E S
              refine ⟨fun x hq hb => (agree_le (Hp.le.refl _) S.imm), ?_⟩
              replace S := S.front3
              replace S := S.front1
              refine D_x rfl rfl rfl (X_appendB (xs := (l0.take k).map (fun p => p.2.1)) (ys := [x_6.2.1]) E S rfl rfl rfl T24 (by (simp only [List.length_take, List.length_map, List.length_cons, List.length_nil]; omega)) ?_)
              clear E a S; rintro a w v_27 E S
              refine ⟨fun x hq hb => (agree_le (Hp.le.refl _) S.imm), ?_⟩
              replace S := S.front3
              replace S := S.front2
              refine D_x rfl rfl rfl (X_appendB (xs := (l0.take k).map (fun p => p.2.2)) (ys := [x_6.2.2]) E S rfl rfl rfl T24 (by (simp only [List.length_take, List.length_map, List.length_cons, List.length_nil]; omega)) ?_)
              clear E a S; rintro a w v_28 E S
              refine ⟨fun x hq hb => (agree_le (Hp.le.refl _) S.imm), ?_⟩
              refine D_v E rfl rfl rfl (fun w hC => (R_assign E rfl)) ?_
              clear E a; intro a E
              refine D_v E rfl rfl rfl (fun w hC => (R_assign E rfl)) ?_
              clear E a; intro a E
              refine D_v E rfl rfl rfl (fun w hC => (R_assign E rfl)) ?_
              clear E a; intro a E
              refine D_end (NoP_n ?_)
              refine B_n ?_
              refine T_n ?_
              refine WP_region ?_
              refine S_v E rfl (R_addx (m := ((k + 1 : Nat) : Int)) E rfl rfl (by omega) (by omega)) rfl ?_
              clear E a; intro a E
              refine S_v E rfl (R_move E rfl) rfl ?_
              clear E a; intro a E
              refine WL_nil ?_
              refine T_n ?_
              replace S := S.front1
              replace S := S.front2
              replace S := S.front2
              replace S := S.re1 (l' := (l0.take (k + 1)).map (fun p => p.2.2)) (by first | (simp; done) | (rw [tk_snoc (by assumption), List.map_append]; rfl))
              replace S := S.front2
              replace S := S.re1 (l' := (l0.take (k + 1)).map (fun p => p.2.1)) (by first | (simp; done) | (rw [tk_snoc (by assumption), List.map_append]; rfl))
              replace S := S.front2
              replace S := S.re1 (l' := (l0.take (k + 1)).map (fun p => p.1)) (by first | (simp; done) | (rw [tk_snoc (by assumption), List.map_append]; rfl))
              exact ⟨k + 1, ⟨M_9, _, _, _, (hM_4.trans hM_9), S, E.keep ⟨rfl, rfl, rfl, rfl, rfl, rfl, trivial⟩, by ((try clear S); (try clear E); first | assumption | omega | rfl | (simp; done) | (simp_all; done) | (simp [List.take_add_one, *]; done) | grind [List.take_add_one])⟩, by omega⟩
          · have qp_7k28 := qp_7
            have hb_10k28 := hb_10
            replace S := S.mono_heap (w' := World.drew _) rfl
            refine DG_end (C := fun x w => agree M_9 w) (bf := (fun i => [])) [0, 1, 2, 5, 6, 7, 10, 11, 12, 15, 16, 17] [0, 1, 2, 5, 6, 7, 10, 11, 12, 3, 13, 4, 8, 9, 14, 15, 16, 17] (by kernel_rfl) (fun x hq => S.imm) ?_
            refine D_v E rfl rfl rfl (fun w hC => (R_move E rfl)) ?_
            clear E a; intro a E
            refine D_v E rfl rfl rfl (fun w hC => (R_fieldAddr E rfl (FA72_0 _))) ?_
            clear E a; intro a E
            refine D_v E rfl rfl rfl (fun w hC => (R_loadM E rfl Try.isAgg3 hC (cellM_boxo hb_10k28 rfl))) ?_
            clear E a; intro a E
            refine D_v E rfl rfl rfl (fun w hC => (R_move E rfl)) ?_
            clear E a; intro a E
            refine D_v E rfl rfl rfl (fun w hC => (R_fieldAddr E rfl (FA72_1 _))) ?_
            clear E a; intro a E
            refine D_v E rfl rfl rfl (fun w hC => (R_loadM E rfl Try.isAgg3 hC (cellM_boxo hb_10k28 rfl))) ?_
            clear E a; intro a E
            refine D_v E rfl rfl rfl (fun w hC => (R_move E rfl)) ?_
            clear E a; intro a E
            refine D_v E rfl rfl rfl (fun w hC => (R_fieldAddr E rfl (FA72_2 _))) ?_
            clear E a; intro a E
            refine D_v E rfl rfl rfl (fun w hC => (R_loadM E rfl Try.isAgg3 hC (cellM_boxo hb_10k28 rfl))) ?_
            clear E a; intro a E
            refine D_x rfl rfl rfl (X_buildI (ys := [x_6.1]) E S rfl T24 rfl rfl rfl ?_)
            clear E a S; rintro a w v_29 E S
            refine ⟨fun x hq hb => (agree_le (Hp.le.refl _) S.imm), ?_⟩
            refine D_x rfl rfl rfl (X_buildI (ys := [x_6.2.2]) E S rfl T24 rfl rfl rfl ?_)
            clear E a S; rintro a w v_30 E S
            refine ⟨fun x hq hb => (agree_le (Hp.le.refl _) S.imm), ?_⟩
            replace S := S.front2
            replace S := S.front2
            refine D_x rfl rfl rfl (X_appendB (xs := (l0.take k).map (fun p => p.1)) (ys := [x_6.1]) E S rfl rfl rfl T24 (by (simp only [List.length_take, List.length_map, List.length_cons, List.length_nil]; omega)) ?_)
            clear E a S; rintro a w v_31 E S
            refine ⟨fun x hq hb => (agree_le (Hp.le.refl _) S.imm), ?_⟩
            refine D_x rfl rfl rfl (X_buildI (ys := [x_6.2.1]) E S rfl T24 rfl rfl rfl ?_)
            clear E a S; rintro a w v_32 E S
            refine ⟨fun x hq hb => (agree_le (Hp.le.refl _) S.imm), ?_⟩
            replace S := S.front3
            replace S := S.front1
            refine D_x rfl rfl rfl (X_appendB (xs := (l0.take k).map (fun p => p.2.1)) (ys := [x_6.2.1]) E S rfl rfl rfl T24 (by (simp only [List.length_take, List.length_map, List.length_cons, List.length_nil]; omega)) ?_)
            clear E a S; rintro a w v_33 E S
            refine ⟨fun x hq hb => (agree_le (Hp.le.refl _) S.imm), ?_⟩
            replace S := S.front3
            replace S := S.front3
            refine D_x rfl rfl rfl (X_appendB (xs := (l0.take k).map (fun p => p.2.2)) (ys := [x_6.2.2]) E S rfl rfl rfl T24 (by (simp only [List.length_take, List.length_map, List.length_cons, List.length_nil]; omega)) ?_)
            clear E a S; rintro a w v_34 E S
            refine ⟨fun x hq hb => (agree_le (Hp.le.refl _) S.imm), ?_⟩
            refine D_v E rfl rfl rfl (fun w hC => (R_assign E rfl)) ?_
            clear E a; intro a E
            refine D_v E rfl rfl rfl (fun w hC => (R_assign E rfl)) ?_
            clear E a; intro a E
            refine D_v E rfl rfl rfl (fun w hC => (R_assign E rfl)) ?_
            clear E a; intro a E
            refine D_end (NoP_n ?_)
            refine B_n ?_
            refine T_n ?_
            refine WP_region ?_
            refine S_v E rfl (R_addx (m := ((k + 1 : Nat) : Int)) E rfl rfl (by omega) (by omega)) rfl ?_
            clear E a; intro a E
            refine S_v E rfl (R_move E rfl) rfl ?_
            clear E a; intro a E
            refine WL_nil ?_
            refine T_n ?_
            replace S := S.front1
            replace S := S.front2
            replace S := S.front2
            replace S := S.re1 (l' := (l0.take (k + 1)).map (fun p => p.2.2)) (by first | (simp; done) | (rw [tk_snoc (by assumption), List.map_append]; rfl))
            replace S := S.front2
            replace S := S.re1 (l' := (l0.take (k + 1)).map (fun p => p.2.1)) (by first | (simp; done) | (rw [tk_snoc (by assumption), List.map_append]; rfl))
            replace S := S.front2
            replace S := S.re1 (l' := (l0.take (k + 1)).map (fun p => p.1)) (by first | (simp; done) | (rw [tk_snoc (by assumption), List.map_append]; rfl))
            exact ⟨k + 1, ⟨M_9, _, _, _, (hM_4.trans hM_9), S, E.keep ⟨rfl, rfl, rfl, rfl, rfl, rfl, trivial⟩, by ((try clear S); (try clear E); first | assumption | omega | rfl | (simp; done) | (simp_all; done) | (simp [List.take_add_one, *]; done) | grind [List.take_add_one])⟩, by omega⟩
        · refine DG_split 8 13 (by decide) (by kernel_rfl) ?_ ?_
          · refine DG_split 4 13 (by decide) (by kernel_rfl) ?_ ?_
            · refine DG_split 9 13 (by decide) (by kernel_rfl) ?_ ?_
              · have qp_7k34 := qp_7
                have hb_10k34 := hb_10
                replace S := S.mono_heap (w' := World.drew _) rfl
                refine DG_end (C := fun x w => agree M_9 w) (bf := (fun i => [])) [0, 1, 2, 5, 6, 7, 10, 11, 12, 15, 16, 17] [0, 1, 2, 5, 6, 7, 10, 11, 12, 3, 8, 4, 9, 13, 14, 15, 16, 17] (by kernel_rfl) (fun x hq => S.imm) ?_
                refine D_v E rfl rfl rfl (fun w hC => (R_move E rfl)) ?_
                clear E a; intro a E
                refine D_v E rfl rfl rfl (fun w hC => (R_fieldAddr E rfl (FA72_0 _))) ?_
                clear E a; intro a E
                refine D_v E rfl rfl rfl (fun w hC => (R_loadM E rfl Try.isAgg3 hC (cellM_boxo hb_10k34 rfl))) ?_
                clear E a; intro a E
                refine D_v E rfl rfl rfl (fun w hC => (R_move E rfl)) ?_
                clear E a; intro a E
                refine D_v E rfl rfl rfl (fun w hC => (R_fieldAddr E rfl (FA72_1 _))) ?_
                clear E a; intro a E
                refine D_v E rfl rfl rfl (fun w hC => (R_loadM E rfl Try.isAgg3 hC (cellM_boxo hb_10k34 rfl))) ?_
                clear E a; intro a E
                refine D_v E rfl rfl rfl (fun w hC => (R_move E rfl)) ?_
                clear E a; intro a E
                refine D_v E rfl rfl rfl (fun w hC => (R_fieldAddr E rfl (FA72_2 _))) ?_
                clear E a; intro a E
                refine D_v E rfl rfl rfl (fun w hC => (R_loadM E rfl Try.isAgg3 hC (cellM_boxo hb_10k34 rfl))) ?_
                clear E a; intro a E
                refine D_x rfl rfl rfl (X_buildI (ys := [x_6.1]) E S rfl T24 rfl rfl rfl ?_)
                clear E a S; rintro a w v_35 E S
                refine ⟨fun x hq hb => (agree_le (Hp.le.refl _) S.imm), ?_⟩
                refine D_x rfl rfl rfl (X_buildI (ys := [x_6.2.1]) E S rfl T24 rfl rfl rfl ?_)
                clear E a S; rintro a w v_36 E S
                refine ⟨fun x hq hb => (agree_le (Hp.le.refl _) S.imm), ?_⟩
                replace S := S.front2
                replace S := S.front2
                refine D_x rfl rfl rfl (X_appendB (xs := (l0.take k).map (fun p => p.1)) (ys := [x_6.1]) E S rfl rfl rfl T24 (by (simp only [List.length_take, List.length_map, List.length_cons, List.length_nil]; omega)) ?_)
                clear E a S; rintro a w v_37 E S
                refine ⟨fun x hq hb => (agree_le (Hp.le.refl _) S.imm), ?_⟩
                replace S := S.front2
                replace S := S.front2
                refine D_x rfl rfl rfl (X_appendB (xs := (l0.take k).map (fun p => p.2.1)) (ys := [x_6.2.1]) E S rfl rfl rfl T24 (by (simp only [List.length_take, List.length_map, List.length_cons, List.length_nil]; omega)) ?_)
                clear E a S; rintro a w v_38 E S
                refine ⟨fun x hq hb => (agree_le (Hp.le.refl _) S.imm), ?_⟩
                refine D_x rfl rfl rfl (X_buildI (ys := [x_6.2.2]) E S rfl T24 rfl rfl rfl ?_)
                clear E a S; rintro a w v_39 E S
                refine ⟨fun x hq hb => (agree_le (Hp.le.refl _) S.imm), ?_⟩
                replace S := S.front3
                replace S := S.front1
                refine D_x rfl rfl rfl (X_appendB (xs := (l0.take k).map (fun p => p.2.2)) (ys := [x_6.2.2]) E S rfl rfl rfl T24 (by (simp only [List.length_take, List.length_map, List.length_cons, List.length_nil]; omega)) ?_)
                clear E a S; rintro a w v_40 E S
                refine ⟨fun x hq hb => (agree_le (Hp.le.refl _) S.imm), ?_⟩
                refine D_v E rfl rfl rfl (fun w hC => (R_assign E rfl)) ?_
                clear E a; intro a E
                refine D_v E rfl rfl rfl (fun w hC => (R_assign E rfl)) ?_
                clear E a; intro a E
                refine D_v E rfl rfl rfl (fun w hC => (R_assign E rfl)) ?_
                clear E a; intro a E
                refine D_end (NoP_n ?_)
                refine B_n ?_
                refine T_n ?_
                refine WP_region ?_
                refine S_v E rfl (R_addx (m := ((k + 1 : Nat) : Int)) E rfl rfl (by omega) (by omega)) rfl ?_
                clear E a; intro a E
                refine S_v E rfl (R_move E rfl) rfl ?_
                clear E a; intro a E
                refine WL_nil ?_
                refine T_n ?_
                replace S := S.front1
                replace S := S.front2
                replace S := S.front2
                replace S := S.re1 (l' := (l0.take (k + 1)).map (fun p => p.2.2)) (by first | (simp; done) | (rw [tk_snoc (by assumption), List.map_append]; rfl))
                replace S := S.front2
                replace S := S.re1 (l' := (l0.take (k + 1)).map (fun p => p.2.1)) (by first | (simp; done) | (rw [tk_snoc (by assumption), List.map_append]; rfl))
                replace S := S.front2
                replace S := S.re1 (l' := (l0.take (k + 1)).map (fun p => p.1)) (by first | (simp; done) | (rw [tk_snoc (by assumption), List.map_append]; rfl))
                exact ⟨k + 1, ⟨M_9, _, _, _, (hM_4.trans hM_9), S, E.keep ⟨rfl, rfl, rfl, rfl, rfl, rfl, trivial⟩, by ((try clear S); (try clear E); first | assumption | omega | rfl | (simp; done) | (simp_all; done) | (simp [List.take_add_one, *]; done) | grind [List.take_add_one])⟩, by omega⟩
              · have qp_7k40 := qp_7
                have hb_10k40 := hb_10
                replace S := S.mono_heap (w' := World.drew _) rfl
                refine DG_end (C := fun x w => agree M_9 w) (bf := (fun i => [])) [0, 1, 2, 5, 6, 7, 10, 11, 12, 15, 16, 17] [0, 1, 2, 5, 6, 7, 10, 11, 12, 3, 8, 4, 13, 9, 14, 15, 16, 17] (by kernel_rfl) (fun x hq => S.imm) ?_
                refine D_v E rfl rfl rfl (fun w hC => (R_move E rfl)) ?_
                clear E a; intro a E
                refine D_v E rfl rfl rfl (fun w hC => (R_fieldAddr E rfl (FA72_0 _))) ?_
                clear E a; intro a E
                refine D_v E rfl rfl rfl (fun w hC => (R_loadM E rfl Try.isAgg3 hC (cellM_boxo hb_10k40 rfl))) ?_
                clear E a; intro a E
                refine D_v E rfl rfl rfl (fun w hC => (R_move E rfl)) ?_
                clear E a; intro a E
                refine D_v E rfl rfl rfl (fun w hC => (R_fieldAddr E rfl (FA72_1 _))) ?_
                clear E a; intro a E
                refine D_v E rfl rfl rfl (fun w hC => (R_loadM E rfl Try.isAgg3 hC (cellM_boxo hb_10k40 rfl))) ?_
                clear E a; intro a E
                refine D_v E rfl rfl rfl (fun w hC => (R_move E rfl)) ?_
                clear E a; intro a E
                refine D_v E rfl rfl rfl (fun w hC => (R_fieldAddr E rfl (FA72_2 _))) ?_
                clear E a; intro a E
                refine D_v E rfl rfl rfl (fun w hC => (R_loadM E rfl Try.isAgg3 hC (cellM_boxo hb_10k40 rfl))) ?_
                clear E a; intro a E
                refine D_x rfl rfl rfl (X_buildI (ys := [x_6.1]) E S rfl T24 rfl rfl rfl ?_)
                clear E a S; rintro a w v_41 E S
                refine ⟨fun x hq hb => (agree_le (Hp.le.refl _) S.imm), ?_⟩
                refine D_x rfl rfl rfl (X_buildI (ys := [x_6.2.1]) E S rfl T24 rfl rfl rfl ?_)
                clear E a S; rintro a w v_42 E S
                refine ⟨fun x hq hb => (agree_le (Hp.le.refl _) S.imm), ?_⟩
                replace S := S.front2
                replace S := S.front2
                refine D_x rfl rfl rfl (X_appendB (xs := (l0.take k).map (fun p => p.1)) (ys := [x_6.1]) E S rfl rfl rfl T24 (by (simp only [List.length_take, List.length_map, List.length_cons, List.length_nil]; omega)) ?_)
                clear E a S; rintro a w v_43 E S
                refine ⟨fun x hq hb => (agree_le (Hp.le.refl _) S.imm), ?_⟩
                refine D_x rfl rfl rfl (X_buildI (ys := [x_6.2.2]) E S rfl T24 rfl rfl rfl ?_)
                clear E a S; rintro a w v_44 E S
                refine ⟨fun x hq hb => (agree_le (Hp.le.refl _) S.imm), ?_⟩
                replace S := S.front3
                replace S := S.front3
                refine D_x rfl rfl rfl (X_appendB (xs := (l0.take k).map (fun p => p.2.1)) (ys := [x_6.2.1]) E S rfl rfl rfl T24 (by (simp only [List.length_take, List.length_map, List.length_cons, List.length_nil]; omega)) ?_)
                clear E a S; rintro a w v_45 E S
                refine ⟨fun x hq hb => (agree_le (Hp.le.refl _) S.imm), ?_⟩
                replace S := S.front3
                replace S := S.front2
                refine D_x rfl rfl rfl (X_appendB (xs := (l0.take k).map (fun p => p.2.2)) (ys := [x_6.2.2]) E S rfl rfl rfl T24 (by (simp only [List.length_take, List.length_map, List.length_cons, List.length_nil]; omega)) ?_)
                clear E a S; rintro a w v_46 E S
                refine ⟨fun x hq hb => (agree_le (Hp.le.refl _) S.imm), ?_⟩
                refine D_v E rfl rfl rfl (fun w hC => (R_assign E rfl)) ?_
                clear E a; intro a E
                refine D_v E rfl rfl rfl (fun w hC => (R_assign E rfl)) ?_
                clear E a; intro a E
                refine D_v E rfl rfl rfl (fun w hC => (R_assign E rfl)) ?_
                clear E a; intro a E
                refine D_end (NoP_n ?_)
                refine B_n ?_
                refine T_n ?_
                refine WP_region ?_
                refine S_v E rfl (R_addx (m := ((k + 1 : Nat) : Int)) E rfl rfl (by omega) (by omega)) rfl ?_
                clear E a; intro a E
                refine S_v E rfl (R_move E rfl) rfl ?_
                clear E a; intro a E
                refine WL_nil ?_
                refine T_n ?_
                replace S := S.front1
                replace S := S.front2
                replace S := S.front2
                replace S := S.re1 (l' := (l0.take (k + 1)).map (fun p => p.2.2)) (by first | (simp; done) | (rw [tk_snoc (by assumption), List.map_append]; rfl))
                replace S := S.front2
                replace S := S.re1 (l' := (l0.take (k + 1)).map (fun p => p.2.1)) (by first | (simp; done) | (rw [tk_snoc (by assumption), List.map_append]; rfl))
                replace S := S.front2
                replace S := S.re1 (l' := (l0.take (k + 1)).map (fun p => p.1)) (by first | (simp; done) | (rw [tk_snoc (by assumption), List.map_append]; rfl))
                exact ⟨k + 1, ⟨M_9, _, _, _, (hM_4.trans hM_9), S, E.keep ⟨rfl, rfl, rfl, rfl, rfl, rfl, trivial⟩, by ((try clear S); (try clear E); first | assumption | omega | rfl | (simp; done) | (simp_all; done) | (simp [List.take_add_one, *]; done) | grind [List.take_add_one])⟩, by omega⟩
            · have qp_7k46 := qp_7
              have hb_10k46 := hb_10
              replace S := S.mono_heap (w' := World.drew _) rfl
              refine DG_end (C := fun x w => agree M_9 w) (bf := (fun i => [])) [0, 1, 2, 5, 6, 7, 10, 11, 12, 15, 16, 17] [0, 1, 2, 5, 6, 7, 10, 11, 12, 3, 8, 13, 4, 9, 14, 15, 16, 17] (by kernel_rfl) (fun x hq => S.imm) ?_
              refine D_v E rfl rfl rfl (fun w hC => (R_move E rfl)) ?_
              clear E a; intro a E
              refine D_v E rfl rfl rfl (fun w hC => (R_fieldAddr E rfl (FA72_0 _))) ?_
              clear E a; intro a E
              refine D_v E rfl rfl rfl (fun w hC => (R_loadM E rfl Try.isAgg3 hC (cellM_boxo hb_10k46 rfl))) ?_
              clear E a; intro a E
              refine D_v E rfl rfl rfl (fun w hC => (R_move E rfl)) ?_
              clear E a; intro a E
              refine D_v E rfl rfl rfl (fun w hC => (R_fieldAddr E rfl (FA72_1 _))) ?_
              clear E a; intro a E
              refine D_v E rfl rfl rfl (fun w hC => (R_loadM E rfl Try.isAgg3 hC (cellM_boxo hb_10k46 rfl))) ?_
              clear E a; intro a E
              refine D_v E rfl rfl rfl (fun w hC => (R_move E rfl)) ?_
              clear E a; intro a E
              refine D_v E rfl rfl rfl (fun w hC => (R_fieldAddr E rfl (FA72_2 _))) ?_
              clear E a; intro a E
              refine D_v E rfl rfl rfl (fun w hC => (R_loadM E rfl Try.isAgg3 hC (cellM_boxo hb_10k46 rfl))) ?_
              clear E a; intro a E
              refine D_x rfl rfl rfl (X_buildI (ys := [x_6.1]) E S rfl T24 rfl rfl rfl ?_)
              clear E a S; rintro a w v_47 E S
              refine ⟨fun x hq hb => (agree_le (Hp.le.refl _) S.imm), ?_⟩
              refine D_x rfl rfl rfl (X_buildI (ys := [x_6.2.1]) E S rfl T24 rfl rfl rfl ?_)
              clear E a S; rintro a w v_48 E S
              refine ⟨fun x hq hb => (agree_le (Hp.le.refl _) S.imm), ?_⟩
              refine D_x rfl rfl rfl (X_buildI (ys := [x_6.2.2]) E S rfl T24 rfl rfl rfl ?_)
              clear E a S; rintro a w v_49 E S
              refine ⟨fun x hq hb => (agree_le (Hp.le.refl _) S.imm), ?_⟩
              replace S := S.front3
              replace S := S.front3
              refine D_x rfl rfl rfl (X_appendB (xs := (l0.take k).map (fun p => p.1)) (ys := [x_6.1]) E S rfl rfl rfl T24 (by (simp only [List.length_take, List.length_map, List.length_cons, List.length_nil]; omega)) ?_)
              clear E a S; rintro a w v_50 E S
              refine ⟨fun x hq hb => (agree_le (Hp.le.refl _) S.imm), ?_⟩
              replace S := S.front3
              replace S := S.front3
              refine D_x rfl rfl rfl (X_appendB (xs := (l0.take k).map (fun p => p.2.1)) (ys := [x_6.2.1]) E S rfl rfl rfl T24 (by (simp only [List.length_take, List.length_map, List.length_cons, List.length_nil]; omega)) ?_)
              clear E a S; rintro a w v_51 E S
              refine ⟨fun x hq hb => (agree_le (Hp.le.refl _) S.imm), ?_⟩
              replace S := S.front3
              replace S := S.front3
              refine D_x rfl rfl rfl (X_appendB (xs := (l0.take k).map (fun p => p.2.2)) (ys := [x_6.2.2]) E S rfl rfl rfl T24 (by (simp only [List.length_take, List.length_map, List.length_cons, List.length_nil]; omega)) ?_)
              clear E a S; rintro a w v_52 E S
              refine ⟨fun x hq hb => (agree_le (Hp.le.refl _) S.imm), ?_⟩
              refine D_v E rfl rfl rfl (fun w hC => (R_assign E rfl)) ?_
              clear E a; intro a E
              refine D_v E rfl rfl rfl (fun w hC => (R_assign E rfl)) ?_
              clear E a; intro a E
              refine D_v E rfl rfl rfl (fun w hC => (R_assign E rfl)) ?_
              clear E a; intro a E
              refine D_end (NoP_n ?_)
              refine B_n ?_
              refine T_n ?_
              refine WP_region ?_
              refine S_v E rfl (R_addx (m := ((k + 1 : Nat) : Int)) E rfl rfl (by omega) (by omega)) rfl ?_
              clear E a; intro a E
              refine S_v E rfl (R_move E rfl) rfl ?_
              clear E a; intro a E
              refine WL_nil ?_
              refine T_n ?_
              replace S := S.front1
              replace S := S.front2
              replace S := S.front2
              replace S := S.re1 (l' := (l0.take (k + 1)).map (fun p => p.2.2)) (by first | (simp; done) | (rw [tk_snoc (by assumption), List.map_append]; rfl))
              replace S := S.front2
              replace S := S.re1 (l' := (l0.take (k + 1)).map (fun p => p.2.1)) (by first | (simp; done) | (rw [tk_snoc (by assumption), List.map_append]; rfl))
              replace S := S.front2
              replace S := S.re1 (l' := (l0.take (k + 1)).map (fun p => p.1)) (by first | (simp; done) | (rw [tk_snoc (by assumption), List.map_append]; rfl))
              exact ⟨k + 1, ⟨M_9, _, _, _, (hM_4.trans hM_9), S, E.keep ⟨rfl, rfl, rfl, rfl, rfl, rfl, trivial⟩, by ((try clear S); (try clear E); first | assumption | omega | rfl | (simp; done) | (simp_all; done) | (simp [List.take_add_one, *]; done) | grind [List.take_add_one])⟩, by omega⟩
          · have qp_7k52 := qp_7
            have hb_10k52 := hb_10
            replace S := S.mono_heap (w' := World.drew _) rfl
            refine DG_end (C := fun x w => agree M_9 w) (bf := (fun i => [])) [0, 1, 2, 5, 6, 7, 10, 11, 12, 15, 16, 17] [0, 1, 2, 5, 6, 7, 10, 11, 12, 3, 13, 8, 4, 9, 14, 15, 16, 17] (by kernel_rfl) (fun x hq => S.imm) ?_
            refine D_v E rfl rfl rfl (fun w hC => (R_move E rfl)) ?_
            clear E a; intro a E
            refine D_v E rfl rfl rfl (fun w hC => (R_fieldAddr E rfl (FA72_0 _))) ?_
            clear E a; intro a E
            refine D_v E rfl rfl rfl (fun w hC => (R_loadM E rfl Try.isAgg3 hC (cellM_boxo hb_10k52 rfl))) ?_
            clear E a; intro a E
            refine D_v E rfl rfl rfl (fun w hC => (R_move E rfl)) ?_
            clear E a; intro a E
            refine D_v E rfl rfl rfl (fun w hC => (R_fieldAddr E rfl (FA72_1 _))) ?_
            clear E a; intro a E
            refine D_v E rfl rfl rfl (fun w hC => (R_loadM E rfl Try.isAgg3 hC (cellM_boxo hb_10k52 rfl))) ?_
            clear E a; intro a E
            refine D_v E rfl rfl rfl (fun w hC => (R_move E rfl)) ?_
            clear E a; intro a E
            refine D_v E rfl rfl rfl (fun w hC => (R_fieldAddr E rfl (FA72_2 _))) ?_
            clear E a; intro a E
            refine D_v E rfl rfl rfl (fun w hC => (R_loadM E rfl Try.isAgg3 hC (cellM_boxo hb_10k52 rfl))) ?_
            clear E a; intro a E
            refine D_x rfl rfl rfl (X_buildI (ys := [x_6.1]) E S rfl T24 rfl rfl rfl ?_)
            clear E a S; rintro a w v_53 E S
            refine ⟨fun x hq hb => (agree_le (Hp.le.refl _) S.imm), ?_⟩
            refine D_x rfl rfl rfl (X_buildI (ys := [x_6.2.2]) E S rfl T24 rfl rfl rfl ?_)
            clear E a S; rintro a w v_54 E S
            refine ⟨fun x hq hb => (agree_le (Hp.le.refl _) S.imm), ?_⟩
            refine D_x rfl rfl rfl (X_buildI (ys := [x_6.2.1]) E S rfl T24 rfl rfl rfl ?_)
            clear E a S; rintro a w v_55 E S
            refine ⟨fun x hq hb => (agree_le (Hp.le.refl _) S.imm), ?_⟩
            replace S := S.front3
            replace S := S.front3
            refine D_x rfl rfl rfl (X_appendB (xs := (l0.take k).map (fun p => p.1)) (ys := [x_6.1]) E S rfl rfl rfl T24 (by (simp only [List.length_take, List.length_map, List.length_cons, List.length_nil]; omega)) ?_)
            clear E a S; rintro a w v_56 E S
            refine ⟨fun x hq hb => (agree_le (Hp.le.refl _) S.imm), ?_⟩
            replace S := S.front3
            replace S := S.front2
            refine D_x rfl rfl rfl (X_appendB (xs := (l0.take k).map (fun p => p.2.1)) (ys := [x_6.2.1]) E S rfl rfl rfl T24 (by (simp only [List.length_take, List.length_map, List.length_cons, List.length_nil]; omega)) ?_)
            clear E a S; rintro a w v_57 E S
            refine ⟨fun x hq hb => (agree_le (Hp.le.refl _) S.imm), ?_⟩
            replace S := S.front3
            replace S := S.front3
            refine D_x rfl rfl rfl (X_appendB (xs := (l0.take k).map (fun p => p.2.2)) (ys := [x_6.2.2]) E S rfl rfl rfl T24 (by (simp only [List.length_take, List.length_map, List.length_cons, List.length_nil]; omega)) ?_)
            clear E a S; rintro a w v_58 E S
            refine ⟨fun x hq hb => (agree_le (Hp.le.refl _) S.imm), ?_⟩
            refine D_v E rfl rfl rfl (fun w hC => (R_assign E rfl)) ?_
            clear E a; intro a E
            refine D_v E rfl rfl rfl (fun w hC => (R_assign E rfl)) ?_
            clear E a; intro a E
            refine D_v E rfl rfl rfl (fun w hC => (R_assign E rfl)) ?_
            clear E a; intro a E
            refine D_end (NoP_n ?_)
            refine B_n ?_
            refine T_n ?_
            refine WP_region ?_
            refine S_v E rfl (R_addx (m := ((k + 1 : Nat) : Int)) E rfl rfl (by omega) (by omega)) rfl ?_
            clear E a; intro a E
            refine S_v E rfl (R_move E rfl) rfl ?_
            clear E a; intro a E
            refine WL_nil ?_
            refine T_n ?_
            replace S := S.front1
            replace S := S.front2
            replace S := S.front2
            replace S := S.re1 (l' := (l0.take (k + 1)).map (fun p => p.2.2)) (by first | (simp; done) | (rw [tk_snoc (by assumption), List.map_append]; rfl))
            replace S := S.front2
            replace S := S.re1 (l' := (l0.take (k + 1)).map (fun p => p.2.1)) (by first | (simp; done) | (rw [tk_snoc (by assumption), List.map_append]; rfl))
            replace S := S.front2
            replace S := S.re1 (l' := (l0.take (k + 1)).map (fun p => p.1)) (by first | (simp; done) | (rw [tk_snoc (by assumption), List.map_append]; rfl))
            exact ⟨k + 1, ⟨M_9, _, _, _, (hM_4.trans hM_9), S, E.keep ⟨rfl, rfl, rfl, rfl, rfl, rfl, trivial⟩, by ((try clear S); (try clear E); first | assumption | omega | rfl | (simp; done) | (simp_all; done) | (simp [List.take_add_one, *]; done) | grind [List.take_add_one])⟩, by omega⟩
      · refine DG_split 4 8 (by decide) (by kernel_rfl) ?_ ?_
        · have qp_7k58 := qp_7
          have hb_10k58 := hb_10
          replace S := S.mono_heap (w' := World.drew _) rfl
          refine DG_end (C := fun x w => agree M_9 w) (bf := (fun i => [])) [0, 1, 2, 5, 6, 7, 10, 11, 12, 15, 16, 17] [0, 1, 2, 5, 6, 7, 10, 11, 12, 13, 3, 4, 8, 9, 14, 15, 16, 17] (by kernel_rfl) (fun x hq => S.imm) ?_
          refine D_v E rfl rfl rfl (fun w hC => (R_move E rfl)) ?_
          clear E a; intro a E
          refine D_v E rfl rfl rfl (fun w hC => (R_fieldAddr E rfl (FA72_0 _))) ?_
          clear E a; intro a E
          refine D_v E rfl rfl rfl (fun w hC => (R_loadM E rfl Try.isAgg3 hC (cellM_boxo hb_10k58 rfl))) ?_
          clear E a; intro a E
          refine D_v E rfl rfl rfl (fun w hC => (R_move E rfl)) ?_
          clear E a; intro a E
          refine D_v E rfl rfl rfl (fun w hC => (R_fieldAddr E rfl (FA72_1 _))) ?_
          clear E a; intro a E
          refine D_v E rfl rfl rfl (fun w hC => (R_loadM E rfl Try.isAgg3 hC (cellM_boxo hb_10k58 rfl))) ?_
          clear E a; intro a E
          refine D_v E rfl rfl rfl (fun w hC => (R_move E rfl)) ?_
          clear E a; intro a E
          refine D_v E rfl rfl rfl (fun w hC => (R_fieldAddr E rfl (FA72_2 _))) ?_
          clear E a; intro a E
          refine D_v E rfl rfl rfl (fun w hC => (R_loadM E rfl Try.isAgg3 hC (cellM_boxo hb_10k58 rfl))) ?_
          clear E a; intro a E
          refine D_x rfl rfl rfl (X_buildI (ys := [x_6.2.2]) E S rfl T24 rfl rfl rfl ?_)
          clear E a S; rintro a w v_59 E S
          refine ⟨fun x hq hb => (agree_le (Hp.le.refl _) S.imm), ?_⟩
          refine D_x rfl rfl rfl (X_buildI (ys := [x_6.1]) E S rfl T24 rfl rfl rfl ?_)
          clear E a S; rintro a w v_60 E S
          refine ⟨fun x hq hb => (agree_le (Hp.le.refl _) S.imm), ?_⟩
          replace S := S.front2
          replace S := S.front1
          refine D_x rfl rfl rfl (X_appendB (xs := (l0.take k).map (fun p => p.1)) (ys := [x_6.1]) E S rfl rfl rfl T24 (by (simp only [List.length_take, List.length_map, List.length_cons, List.length_nil]; omega)) ?_)
          clear E a S; rintro a w v_61 E S
          refine ⟨fun x hq hb => (agree_le (Hp.le.refl _) S.imm), ?_⟩
          refine D_x rfl rfl rfl (X_buildI (ys := [x_6.2.1]) E S rfl T24 rfl rfl rfl ?_)
          clear E a S; rintro a w v_62 E S
          refine ⟨fun x hq hb => (agree_le (Hp.le.refl _) S.imm), ?_⟩
          replace S := S.front3
          replace S := S.front1
          refine D_x rfl rfl rfl (X_appendB (xs := (l0.take k).map (fun p => p.2.1)) (ys := [x_6.2.1]) E S rfl rfl rfl T24 (by (simp only [List.length_take, List.length_map, List.length_cons, List.length_nil]; omega)) ?_)
          clear E a S; rintro a w v_63 E S
          refine ⟨fun x hq hb => (agree_le (Hp.le.refl _) S.imm), ?_⟩
          replace S := S.front3
          replace S := S.front3
          refine D_x rfl rfl rfl (X_appendB (xs := (l0.take k).map (fun p => p.2.2)) (ys := [x_6.2.2]) E S rfl rfl rfl T24 (by (simp only [List.length_take, List.length_map, List.length_cons, List.length_nil]; omega)) ?_)
          clear E a S; rintro a w v_64 E S
          refine ⟨fun x hq hb => (agree_le (Hp.le.refl _) S.imm), ?_⟩
          refine D_v E rfl rfl rfl (fun w hC => (R_assign E rfl)) ?_
          clear E a; intro a E
          refine D_v E rfl rfl rfl (fun w hC => (R_assign E rfl)) ?_
          clear E a; intro a E
          refine D_v E rfl rfl rfl (fun w hC => (R_assign E rfl)) ?_
          clear E a; intro a E
          refine D_end (NoP_n ?_)
          refine B_n ?_
          refine T_n ?_
          refine WP_region ?_
          refine S_v E rfl (R_addx (m := ((k + 1 : Nat) : Int)) E rfl rfl (by omega) (by omega)) rfl ?_
          clear E a; intro a E
          refine S_v E rfl (R_move E rfl) rfl ?_
          clear E a; intro a E
          refine WL_nil ?_
          refine T_n ?_
          replace S := S.front1
          replace S := S.front2
          replace S := S.front2
          replace S := S.re1 (l' := (l0.take (k + 1)).map (fun p => p.2.2)) (by first | (simp; done) | (rw [tk_snoc (by assumption), List.map_append]; rfl))
          replace S := S.front2
          replace S := S.re1 (l' := (l0.take (k + 1)).map (fun p => p.2.1)) (by first | (simp; done) | (rw [tk_snoc (by assumption), List.map_append]; rfl))
          replace S := S.front2
          replace S := S.re1 (l' := (l0.take (k + 1)).map (fun p => p.1)) (by first | (simp; done) | (rw [tk_snoc (by assumption), List.map_append]; rfl))
          exact ⟨k + 1, ⟨M_9, _, _, _, (hM_4.trans hM_9), S, E.keep ⟨rfl, rfl, rfl, rfl, rfl, rfl, trivial⟩, by ((try clear S); (try clear E); first | assumption | omega | rfl | (simp; done) | (simp_all; done) | (simp [List.take_add_one, *]; done) | grind [List.take_add_one])⟩, by omega⟩
        · have qp_7k64 := qp_7
          have hb_10k64 := hb_10
          replace S := S.mono_heap (w' := World.drew _) rfl
          refine DG_end (C := fun x w => agree M_9 w) (bf := (fun i => [])) [0, 1, 2, 5, 6, 7, 10, 11, 12, 15, 16, 17] [0, 1, 2, 5, 6, 7, 10, 11, 12, 13, 3, 8, 4, 9, 14, 15, 16, 17] (by kernel_rfl) (fun x hq => S.imm) ?_
          refine D_v E rfl rfl rfl (fun w hC => (R_move E rfl)) ?_
          clear E a; intro a E
          refine D_v E rfl rfl rfl (fun w hC => (R_fieldAddr E rfl (FA72_0 _))) ?_
          clear E a; intro a E
          refine D_v E rfl rfl rfl (fun w hC => (R_loadM E rfl Try.isAgg3 hC (cellM_boxo hb_10k64 rfl))) ?_
          clear E a; intro a E
          refine D_v E rfl rfl rfl (fun w hC => (R_move E rfl)) ?_
          clear E a; intro a E
          refine D_v E rfl rfl rfl (fun w hC => (R_fieldAddr E rfl (FA72_1 _))) ?_
          clear E a; intro a E
          refine D_v E rfl rfl rfl (fun w hC => (R_loadM E rfl Try.isAgg3 hC (cellM_boxo hb_10k64 rfl))) ?_
          clear E a; intro a E
          refine D_v E rfl rfl rfl (fun w hC => (R_move E rfl)) ?_
          clear E a; intro a E
          refine D_v E rfl rfl rfl (fun w hC => (R_fieldAddr E rfl (FA72_2 _))) ?_
          clear E a; intro a E
          refine D_v E rfl rfl rfl (fun w hC => (R_loadM E rfl Try.isAgg3 hC (cellM_boxo hb_10k64 rfl))) ?_
          clear E a; intro a E
          refine D_x rfl rfl rfl (X_buildI (ys := [x_6.2.2]) E S rfl T24 rfl rfl rfl ?_)
          clear E a S; rintro a w v_65 E S
          refine ⟨fun x hq hb => (agree_le (Hp.le.refl _) S.imm), ?_⟩
          refine D_x rfl rfl rfl (X_buildI (ys := [x_6.1]) E S rfl T24 rfl rfl rfl ?_)
          clear E a S; rintro a w v_66 E S
          refine ⟨fun x hq hb => (agree_le (Hp.le.refl _) S.imm), ?_⟩
          refine D_x rfl rfl rfl (X_buildI (ys := [x_6.2.1]) E S rfl T24 rfl rfl rfl ?_)
          clear E a S; rintro a w v_67 E S
          refine ⟨fun x hq hb => (agree_le (Hp.le.refl _) S.imm), ?_⟩
          replace S := S.front3
          replace S := S.front2
          refine D_x rfl rfl rfl (X_appendB (xs := (l0.take k).map (fun p => p.1)) (ys := [x_6.1]) E S rfl rfl rfl T24 (by (simp only [List.length_take, List.length_map, List.length_cons, List.length_nil]; omega)) ?_)
          clear E a S; rintro a w v_68 E S
          refine ⟨fun x hq hb => (agree_le (Hp.le.refl _) S.imm), ?_⟩
          replace S := S.front3
          replace S := S.front2
          refine D_x rfl rfl rfl (X_appendB (xs := (l0.take k).map (fun p => p.2.1)) (ys := [x_6.2.1]) E S rfl rfl rfl T24 (by (simp only [List.length_take, List.length_map, List.length_cons, List.length_nil]; omega)) ?_)
          clear E a S; rintro a w v_69 E S
          refine ⟨fun x hq hb => (agree_le (Hp.le.refl _) S.imm), ?_⟩
          replace S := S.front3
          replace S := S.front3
          refine D_x rfl rfl rfl (X_appendB (xs := (l0.take k).map (fun p => p.2.2)) (ys := [x_6.2.2]) E S rfl rfl rfl T24 (by (simp only [List.length_take, List.length_map, List.length_cons, List.length_nil]; omega)) ?_)
          clear E a S; rintro a w v_70 E S
          refine ⟨fun x hq hb => (agree_le (Hp.le.refl _) S.imm), ?_⟩
          refine D_v E rfl rfl rfl (fun w hC => (R_assign E rfl)) ?_
          clear E a; intro a E
          refine D_v E rfl rfl rfl (fun w hC => (R_assign E rfl)) ?_
          clear E a; intro a E
          refine D_v E rfl rfl rfl (fun w hC => (R_assign E rfl)) ?_
          clear E a; intro a E
          refine D_end (NoP_n ?_)
          refine B_n ?_
          refine T_n ?_
          refine WP_region ?_
          refine S_v E rfl (R_addx (m := ((k + 1 : Nat) : Int)) E rfl rfl (by omega) (by omega)) rfl ?_
          clear E a; intro a E
          refine S_v E rfl (R_move E rfl) rfl ?_
          clear E a; intro a E
          refine WL_nil ?_
          refine T_n ?_
          replace S := S.front1
          replace S := S.front2
          replace S := S.front2
          replace S := S.re1 (l' := (l0.take (k + 1)).map (fun p => p.2.2)) (by first | (simp; done) | (rw [tk_snoc (by assumption), List.map_append]; rfl))
          replace S := S.front2
          replace S := S.re1 (l' := (l0.take (k + 1)).map (fun p => p.2.1)) (by first | (simp; done) | (rw [tk_snoc (by assumption), List.map_append]; rfl))
          replace S := S.front2
          replace S := S.re1 (l' := (l0.take (k + 1)).map (fun p => p.1)) (by first | (simp; done) | (rw [tk_snoc (by assumption), List.map_append]; rfl))
          exact ⟨k + 1, ⟨M_9, _, _, _, (hM_4.trans hM_9), S, E.keep ⟨rfl, rfl, rfl, rfl, rfl, rfl, trivial⟩, by ((try clear S); (try clear E); first | assumption | omega | rfl | (simp; done) | (simp_all; done) | (simp [List.take_add_one, *]; done) | grind [List.take_add_one])⟩, by omega⟩
    · refine DG_split 8 13 (by decide) (by kernel_rfl) ?_ ?_
      · refine DG_split 3 13 (by decide) (by kernel_rfl) ?_ ?_
        · refine DG_split 4 13 (by decide) (by kernel_rfl) ?_ ?_
          · refine DG_split 9 13 (by decide) (by kernel_rfl) ?_ ?_
            · have qp_7k70 := qp_7
              have hb_10k70 := hb_10
              replace S := S.mono_heap (w' := World.drew _) rfl
              refine DG_end (C := fun x w => agree M_9 w) (bf := (fun i => [])) [0, 1, 2, 5, 6, 7, 10, 11, 12, 15, 16, 17] [0, 1, 2, 5, 6, 7, 10, 11, 12, 8, 3, 4, 9, 13, 14, 15, 16, 17] (by kernel_rfl) (fun x hq => S.imm) ?_
              refine D_v E rfl rfl rfl (fun w hC => (R_move E rfl)) ?_
              clear E a; intro a E
              refine D_v E rfl rfl rfl (fun w hC => (R_fieldAddr E rfl (FA72_0 _))) ?_
              clear E a; intro a E
              refine D_v E rfl rfl rfl (fun w hC => (R_loadM E rfl Try.isAgg3 hC (cellM_boxo hb_10k70 rfl))) ?_
              clear E a; intro a E
              refine D_v E rfl rfl rfl (fun w hC => (R_move E rfl)) ?_
              clear E a; intro a E
              refine D_v E rfl rfl rfl (fun w hC => (R_fieldAddr E rfl (FA72_1 _))) ?_
              clear E a; intro a E
              refine D_v E rfl rfl rfl (fun w hC => (R_loadM E rfl Try.isAgg3 hC (cellM_boxo hb_10k70 rfl))) ?_
              clear E a; intro a E
              refine D_v E rfl rfl rfl (fun w hC => (R_move E rfl)) ?_
              clear E a; intro a E
              refine D_v E rfl rfl rfl (fun w hC => (R_fieldAddr E rfl (FA72_2 _))) ?_
              clear E a; intro a E
              refine D_v E rfl rfl rfl (fun w hC => (R_loadM E rfl Try.isAgg3 hC (cellM_boxo hb_10k70 rfl))) ?_
              clear E a; intro a E
              refine D_x rfl rfl rfl (X_buildI (ys := [x_6.2.1]) E S rfl T24 rfl rfl rfl ?_)
              clear E a S; rintro a w v_71 E S
              refine ⟨fun x hq hb => (agree_le (Hp.le.refl _) S.imm), ?_⟩
              refine D_x rfl rfl rfl (X_buildI (ys := [x_6.1]) E S rfl T24 rfl rfl rfl ?_)
              clear E a S; rintro a w v_72 E S
              refine ⟨fun x hq hb => (agree_le (Hp.le.refl _) S.imm), ?_⟩
              replace S := S.front2
              replace S := S.front1
              refine D_x rfl rfl rfl (X_appendB (xs := (l0.take k).map (fun p => p.1)) (ys := [x_6.1]) E S rfl rfl rfl T24 (by (simp only [List.length_take, List.length_map, List.length_cons, List.length_nil]; omega)) ?_)
              clear E a S; rintro a w v_73 E S
              refine ⟨fun x hq hb => (agree_le (Hp.le.refl _) S.imm), ?_⟩
              replace S := S.front2
              replace S := S.front2
              refine D_x rfl rfl rfl (X_appendB (xs := (l0.take k).map (fun p => p.2.1)) (ys := [x_6.2.1]) E S rfl rfl rfl T24 (by (simp only [List.length_take, List.length_map, List.length_cons, List.length_nil]; omega)) ?_)
              clear E a S; rintro a w v_74 E S
              refine ⟨fun x hq hb => (agree_le (Hp.le.refl _) S.imm), ?_⟩
              refine D_x rfl rfl rfl (X_buildI (ys := [x_6.2.2]) E S rfl T24 rfl rfl rfl ?_)
              clear E a S; rintro a w v_75 E S
              refine ⟨fun x hq hb => (agree_le (Hp.le.refl _) S.imm), ?_⟩
              replace S := S.front3
              replace S := S.front1
              refine D_x rfl rfl rfl (X_appendB (xs := (l0.take k).map (fun p => p.2.2)) (ys := [x_6.2.2]) E S rfl rfl rfl T24 (by (simp only [List.length_take, List.length_map, List.length_cons, List.length_nil]; omega)) ?_)
              clear E a S; rintro a w v_76 E S
              refine ⟨fun x hq hb => (agree_le (Hp.le.refl _) S.imm), ?_⟩
              refine D_v E rfl rfl rfl (fun w hC => (R_assign E rfl)) ?_
              clear E a; intro a E
              refine D_v E rfl rfl rfl (fun w hC => (R_assign E rfl)) ?_
              clear E a; intro a E
              refine D_v E rfl rfl rfl (fun w hC => (R_assign E rfl)) ?_
              clear E a; intro a E
              refine D_end (NoP_n ?_)
              refine B_n ?_
              refine T_n ?_
              refine WP_region ?_
              refine S_v E rfl (R_addx (m := ((k + 1 : Nat) : Int)) E rfl rfl (by omega) (by omega)) rfl ?_
              clear E a; intro a E
              refine S_v E rfl (R_move E rfl) rfl ?_
              clear E a; intro a E
              refine WL_nil ?_
              refine T_n ?_
              replace S := S.front1
              replace S := S.front2
              replace S := S.front2
              replace S := S.re1 (l' := (l0.take (k + 1)).map (fun p => p.2.2)) (by first | (simp; done) | (rw [tk_snoc (by assumption), List.map_append]; rfl))
              replace S := S.front2
              replace S := S.re1 (l' := (l0.take (k + 1)).map (fun p => p.2.1)) (by first | (simp; done) | (rw [tk_snoc (by assumption), List.map_append]; rfl))
              replace S := S.front2
              replace S := S.re1 (l' := (l0.take (k + 1)).map (fun p => p.1)) (by first | (simp; done) | (rw [tk_snoc (by assumption), List.map_append]; rfl))
              exact ⟨k + 1, ⟨M_9, _, _, _, (hM_4.trans hM_9), S, E.keep ⟨rfl, rfl, rfl, rfl, rfl, rfl, trivial⟩, by ((try clear S); (try clear E); first | assumption | omega | rfl | (simp; done) | (simp_all; done) | (simp [List.take_add_one, *]; done) | grind [List.take_add_one])⟩, by omega⟩
            · have qp_7k76 := qp_7
              have hb_10k76 := hb_10
              replace S := S.mono_heap (w' := World.drew _) rfl
              refine DG_end (C := fun x w => agree M_9 w) (bf := (fun i => [])) [0, 1, 2, 5, 6, 7, 10, 11, 12, 15, 16, 17] [0, 1, 2, 5, 6, 7, 10, 11, 12, 8, 3, 4, 13, 9, 14, 15, 16, 17] (by kernel_rfl) (fun x hq => S.imm) ?_
              refine D_v E rfl rfl rfl (fun w hC => (R_move E rfl)) ?_
              clear E a; intro a E
              refine D_v E rfl rfl rfl (fun w hC => (R_fieldAddr E rfl (FA72_0 _))) ?_
              clear E a; intro a E
              refine D_v E rfl rfl rfl (fun w hC => (R_loadM E rfl Try.isAgg3 hC (cellM_boxo hb_10k76 rfl))) ?_
              clear E a; intro a E
              refine D_v E rfl rfl rfl (fun w hC => (R_move E rfl)) ?_
              clear E a; intro a E
              refine D_v E rfl rfl rfl (fun w hC => (R_fieldAddr E rfl (FA72_1 _))) ?_
              clear E a; intro a E
              refine D_v E rfl rfl rfl (fun w hC => (R_loadM E rfl Try.isAgg3 hC (cellM_boxo hb_10k76 rfl))) ?_
              clear E a; intro a E
              refine D_v E rfl rfl rfl (fun w hC => (R_move E rfl)) ?_
              clear E a; intro a E
              refine D_v E rfl rfl rfl (fun w hC => (R_fieldAddr E rfl (FA72_2 _))) ?_
              clear E a; intro a E
              refine D_v E rfl rfl rfl (fun w hC => (R_loadM E rfl Try.isAgg3 hC (cellM_boxo hb_10k76 rfl))) ?_
              clear E a; intro a E
              refine D_x rfl rfl rfl (X_buildI (ys := [x_6.2.1]) E S rfl T24 rfl rfl rfl ?_)
              clear E a S; rintro a w v_77 E S
              refine ⟨fun x hq hb => (agree_le (Hp.le.refl _) S.imm), ?_⟩
              refine D_x rfl rfl rfl (X_buildI (ys := [x_6.1]) E S rfl T24 rfl rfl rfl ?_)
              clear E a S; rintro a w v_78 E S
              refine ⟨fun x hq hb => (agree_le (Hp.le.refl _) S.imm), ?_⟩
              replace S := S.front2
              replace S := S.front1
              refine D_x rfl rfl rfl (X_appendB (xs := (l0.take k).map (fun p => p.1)) (ys := [x_6.1]) E S rfl rfl rfl T24 (by (simp only [List.length_take, List.length_map, List.length_cons, List.length_nil]; omega)) ?_)
              clear E a S; rintro a w v_79 E S
              refine ⟨fun x hq hb => (agree_le (Hp.le.refl _) S.imm), ?_⟩
              refine D_x rfl rfl rfl (X_buildI (ys := [x_6.2.2]) E S rfl T24 rfl rfl rfl ?_)
              clear E a S; rintro a w v_80 E S
              refine ⟨fun x hq hb => (agree_le (Hp.le.refl _) S.imm), ?_⟩
              replace S := S.front3
              replace S := S.front3
              refine D_x rfl rfl rfl (X_appendB (xs := (l0.take k).map (fun p => p.2.1)) (ys := [x_6.2.1]) E S rfl rfl rfl T24 (by (simp only [List.length_take, List.length_map, List.length_cons, List.length_nil]; omega)) ?_)
              clear E a S; rintro a w v_81 E S
              refine ⟨fun x hq hb => (agree_le (Hp.le.refl _) S.imm), ?_⟩
              replace S := S.front3
              replace S := S.front2
              refine D_x rfl rfl rfl (X_appendB (xs := (l0.take k).map (fun p => p.2.2)) (ys := [x_6.2.2]) E S rfl rfl rfl T24 (by (simp only [List.length_take, List.length_map, List.length_cons, List.length_nil]; omega)) ?_)
              clear E a S; rintro a w v_82 E S
              refine ⟨fun x hq hb => (agree_le (Hp.le.refl _) S.imm), ?_⟩
              refine D_v E rfl rfl rfl (fun w hC => (R_assign E rfl)) ?_
              clear E a; intro a E
              refine D_v E rfl rfl rfl (fun w hC => (R_assign E rfl)) ?_
              clear E a; intro a E
              refine D_v E rfl rfl rfl (fun w hC => (R_assign E rfl)) ?_
              clear E a; intro a E
              refine D_end (NoP_n ?_)
              refine B_n ?_
              refine T_n ?_
              refine WP_region ?_
              refine S_v E rfl (R_addx (m := ((k + 1 : Nat) : Int)) E rfl rfl (by omega) (by omega)) rfl ?_
              clear E a; intro a E
              refine S_v E rfl (R_move E rfl) rfl ?_
              clear E a; intro a E
              refine WL_nil ?_
              refine T_n ?_
              replace S := S.front1
              replace S := S.front2
              replace S := S.front2
              replace S := S.re1 (l' := (l0.take (k + 1)).map (fun p => p.2.2)) (by first | (simp; done) | (rw [tk_snoc (by assumption), List.map_append]; rfl))
              replace S := S.front2
              replace S := S.re1 (l' := (l0.take (k + 1)).map (fun p => p.2.1)) (by first | (simp; done) | (rw [tk_snoc (by assumption), List.map_append]; rfl))
              replace S := S.front2
              replace S := S.re1 (l' := (l0.take (k + 1)).map (fun p => p.1)) (by first | (simp; done) | (rw [tk_snoc (by assumption), List.map_append]; rfl))
              exact ⟨k + 1, ⟨M_9, _, _, _, (hM_4.trans hM_9), S, E.keep ⟨rfl, rfl, rfl, rfl, rfl, rfl, trivial⟩, by ((try clear S); (try clear E); first | assumption | omega | rfl | (simp; done) | (simp_all; done) | (simp [List.take_add_one, *]; done) | grind [List.take_add_one])⟩, by omega⟩
          · have qp_7k82 := qp_7
            have hb_10k82 := hb_10
            replace S := S.mono_heap (w' := World.drew _) rfl
            refine DG_end (C := fun x w => agree M_9 w) (bf := (fun i => [])) [0, 1, 2, 5, 6, 7, 10, 11, 12, 15, 16, 17] [0, 1, 2, 5, 6, 7, 10, 11, 12, 8, 3, 13, 4, 9, 14, 15, 16, 17] (by kernel_rfl) (fun x hq => S.imm) ?_
            refine D_v E rfl rfl rfl (fun w hC => (R_move E rfl)) ?_
            clear E a; intro a E
            refine D_v E rfl rfl rfl (fun w hC => (R_fieldAddr E rfl (FA72_0 _))) ?_
            clear E a; intro a E
            refine D_v E rfl rfl rfl (fun w hC => (R_loadM E rfl Try.isAgg3 hC (cellM_boxo hb_10k82 rfl))) ?_
            clear E a; intro a E
            refine D_v E rfl rfl rfl (fun w hC => (R_move E rfl)) ?_
            clear E a; intro a E
            refine D_v E rfl rfl rfl (fun w hC => (R_fieldAddr E rfl (FA72_1 _))) ?_
            clear E a; intro a E
            refine D_v E rfl rfl rfl (fun w hC => (R_loadM E rfl Try.isAgg3 hC (cellM_boxo hb_10k82 rfl))) ?_
            clear E a; intro a E
            refine D_v E rfl rfl rfl (fun w hC => (R_move E rfl)) ?_
            clear E a; intro a E
            refine D_v E rfl rfl rfl (fun w hC => (R_fieldAddr E rfl (FA72_2 _))) ?_
            clear E a; intro a E
            refine D_v E rfl rfl rfl (fun w hC => (R_loadM E rfl Try.isAgg3 hC (cellM_boxo hb_10k82 rfl))) ?_
            clear E a; intro a E
            refine D_x rfl rfl rfl (X_buildI (ys := [x_6.2.1]) E S rfl T24 rfl rfl rfl ?_)
            clear E a S; rintro a w v_83 E S
            refine ⟨fun x hq hb => (agree_le (Hp.le.refl _) S.imm), ?_⟩
            refine D_x rfl rfl rfl (X_buildI (ys := [x_6.1]) E S rfl T24 rfl rfl rfl ?_)
            clear E a S; rintro a w v_84 E S
            refine ⟨fun x hq hb => (agree_le (Hp.le.refl _) S.imm), ?_⟩
            refine D_x rfl rfl rfl (X_buildI (ys := [x_6.2.2]) E S rfl T24 rfl rfl rfl ?_)
            clear E a S; rintro a w v_85 E S
            refine ⟨fun x hq hb => (agree_le (Hp.le.refl _) S.imm), ?_⟩
            replace S := S.front3
            replace S := S.front2
            refine D_x rfl rfl rfl (X_appendB (xs := (l0.take k).map (fun p => p.1)) (ys := [x_6.1]) E S rfl rfl rfl T24 (by (simp only [List.length_take, List.length_map, List.length_cons, List.length_nil]; omega)) ?_)
            clear E a S; rintro a w v_86 E S
            refine ⟨fun x hq hb => (agree_le (Hp.le.refl _) S.imm), ?_⟩
            replace S := S.front3
            replace S := S.front3
            refine D_x rfl rfl rfl (X_appendB (xs := (l0.take k).map (fun p => p.2.1)) (ys := [x_6.2.1]) E S rfl rfl rfl T24 (by (simp only [List.length_take, List.length_map, List.length_cons, List.length_nil]; omega)) ?_)
            clear E a S; rintro a w v_87 E S
            refine ⟨fun x hq hb => (agree_le (Hp.le.refl _) S.imm), ?_⟩
            replace S := S.front3
            replace S := S.front3
            refine D_x rfl rfl rfl (X_appendB (xs := (l0.take k).map (fun p => p.2.2)) (ys := [x_6.2.2]) E S rfl rfl rfl T24 (by (simp only [List.length_take, List.length_map, List.length_cons, List.length_nil]; omega)) ?_)
            clear E a S; rintro a w v_88 E S
            refine ⟨fun x hq hb => (agree_le (Hp.le.refl _) S.imm), ?_⟩
            refine D_v E rfl rfl rfl (fun w hC => (R_assign E rfl)) ?_
            clear E a; intro a E
            refine D_v E rfl rfl rfl (fun w hC => (R_assign E rfl)) ?_
            clear E a; intro a E
            refine D_v E rfl rfl rfl (fun w hC => (R_assign E rfl)) ?_
            clear E a; intro a E
            refine D_end (NoP_n ?_)
            refine B_n ?_
            refine T_n ?_
            refine WP_region ?_
            refine S_v E rfl (R_addx (m := ((k + 1 : Nat) : Int)) E rfl rfl (by omega) (by omega)) rfl ?_
            clear E a; intro a E
            refine S_v E rfl (R_move E rfl) rfl ?_
            clear E a; intro a E
            refine WL_nil ?_
            refine T_n ?_
            replace S := S.front1
            replace S := S.front2
            replace S := S.front2
            replace S := S.re1 (l' := (l0.take (k + 1)).map (fun p => p.2.2)) (by first | (simp; done) | (rw [tk_snoc (by assumption), List.map_append]; rfl))
            replace S := S.front2
            replace S := S.re1 (l' := (l0.take (k + 1)).map (fun p => p.2.1)) (by first | (simp; done) | (rw [tk_snoc (by assumption), List.map_append]; rfl))
            replace S := S.front2
            replace S := S.re1 (l' := (l0.take (k + 1)).map (fun p => p.1)) (by first | (simp; done) | (rw [tk_snoc (by assumption), List.map_append]; rfl))
            exact ⟨k + 1, ⟨M_9, _, _, _, (hM_4.trans hM_9), S, E.keep ⟨rfl, rfl, rfl, rfl, rfl, rfl, trivial⟩, by ((try clear S); (try clear E); first | assumption | omega | rfl | (simp; done) | (simp_all; done) | (simp [List.take_add_one, *]; done) | grind [List.take_add_one])⟩, by omega⟩
        · have qp_7k88 := qp_7
          have hb_10k88 := hb_10
          replace S := S.mono_heap (w' := World.drew _) rfl
          refine DG_end (C := fun x w => agree M_9 w) (bf := (fun i => [])) [0, 1, 2, 5, 6, 7, 10, 11, 12, 15, 16, 17] [0, 1, 2, 5, 6, 7, 10, 11, 12, 8, 13, 3, 4, 9, 14, 15, 16, 17] (by kernel_rfl) (fun x hq => S.imm) ?_
          refine D_v E rfl rfl rfl (fun w hC => (R_move E rfl)) ?_
          clear E a; intro a E
          refine D_v E rfl rfl rfl (fun w hC => (R_fieldAddr E rfl (FA72_0 _))) ?_
          clear E a; intro a E
          refine D_v E rfl rfl rfl (fun w hC => (R_loadM E rfl Try.isAgg3 hC (cellM_boxo hb_10k88 rfl))) ?_
          clear E a; intro a E
          refine D_v E rfl rfl rfl (fun w hC => (R_move E rfl)) ?_
          clear E a; intro a E
          refine D_v E rfl rfl rfl (fun w hC => (R_fieldAddr E rfl (FA72_1 _))) ?_
          clear E a; intro a E
          refine D_v E rfl rfl rfl (fun w hC => (R_loadM E rfl Try.isAgg3 hC (cellM_boxo hb_10k88 rfl))) ?_
          clear E a; intro a E
          refine D_v E rfl rfl rfl (fun w hC => (R_move E rfl)) ?_
          clear E a; intro a E
          refine D_v E rfl rfl rfl (fun w hC => (R_fieldAddr E rfl (FA72_2 _))) ?_
          clear E a; intro a E
          refine D_v E rfl rfl rfl (fun w hC => (R_loadM E rfl Try.isAgg3 hC (cellM_boxo hb_10k88 rfl))) ?_
          clear E a; intro a E
          refine D_x rfl rfl rfl (X_buildI (ys := [x_6.2.1]) E S rfl T24 rfl rfl rfl ?_)
          clear E a S; rintro a w v_89 E S
          refine ⟨fun x hq hb => (agree_le (Hp.le.refl _) S.imm), ?_⟩
          refine D_x rfl rfl rfl (X_buildI (ys := [x_6.2.2]) E S rfl T24 rfl rfl rfl ?_)
          clear E a S; rintro a w v_90 E S
          refine ⟨fun x hq hb => (agree_le (Hp.le.refl _) S.imm), ?_⟩
          refine D_x rfl rfl rfl (X_buildI (ys := [x_6.1]) E S rfl T24 rfl rfl rfl ?_)
          clear E a S; rintro a w v_91 E S
          refine ⟨fun x hq hb => (agree_le (Hp.le.refl _) S.imm), ?_⟩
          replace S := S.front3
          replace S := S.front1
          refine D_x rfl rfl rfl (X_appendB (xs := (l0.take k).map (fun p => p.1)) (ys := [x_6.1]) E S rfl rfl rfl T24 (by (simp only [List.length_take, List.length_map, List.length_cons, List.length_nil]; omega)) ?_)
          clear E a S; rintro a w v_92 E S
          refine ⟨fun x hq hb => (agree_le (Hp.le.refl _) S.imm), ?_⟩
          replace S := S.front3
          replace S := S.front3
          refine D_x rfl rfl rfl (X_appendB (xs := (l0.take k).map (fun p => p.2.1)) (ys := [x_6.2.1]) E S rfl rfl rfl T24 (by (simp only [List.length_take, List.length_map, List.length_cons, List.length_nil]; omega)) ?_)
          clear E a S; rintro a w v_93 E S
          refine ⟨fun x hq hb => (agree_le (Hp.le.refl _) S.imm), ?_⟩
          replace S := S.front3
          replace S := S.front3
          refine D_x rfl rfl rfl (X_appendB (xs := (l0.take k).map (fun p => p.2.2)) (ys := [x_6.2.2]) E S rfl rfl rfl T24 (by (simp only [List.length_take, List.length_map, List.length_cons, List.length_nil]; omega)) ?_)
          clear E a S; rintro a w v_94 E S
          refine ⟨fun x hq hb => (agree_le (Hp.le.refl _) S.imm), ?_⟩
          refine D_v E rfl rfl rfl (fun w hC => (R_assign E rfl)) ?_
          clear E a; intro a E
          refine D_v E rfl rfl rfl (fun w hC => (R_assign E rfl)) ?_
          clear E a; intro a E
          refine D_v E rfl rfl rfl (fun w hC => (R_assign E rfl)) ?_
          clear E a; intro a E
          refine D_end (NoP_n ?_)
          refine B_n ?_
          refine T_n ?_
          refine WP_region ?_
          refine S_v E rfl (R_addx (m := ((k + 1 : Nat) : Int)) E rfl rfl (by omega) (by omega)) rfl ?_
          clear E a; intro a E
          refine S_v E rfl (R_move E rfl) rfl ?_
          clear E a; intro a E
          refine WL_nil ?_
          refine T_n ?_
          replace S := S.front1
          replace S := S.front2
          replace S := S.front2
          replace S := S.re1 (l' := (l0.take (k + 1)).map (fun p => p.2.2)) (by first | (simp; done) | (rw [tk_snoc (by assumption), List.map_append]; rfl))
          replace S := S.front2
          replace S := S.re1 (l' := (l0.take (k + 1)).map (fun p => p.2.1)) (by first | (simp; done) | (rw [tk_snoc (by assumption), List.map_append]; rfl))
          replace S := S.front2
          replace S := S.re1 (l' := (l0.take (k + 1)).map (fun p => p.1)) (by first | (simp; done) | (rw [tk_snoc (by assumption), List.map_append]; rfl))
          exact ⟨k + 1, ⟨M_9, _, _, _, (hM_4.trans hM_9), S, E.keep ⟨rfl, rfl, rfl, rfl, rfl, rfl, trivial⟩, by ((try clear S); (try clear E); first | assumption | omega | rfl | (simp; done) | (simp_all; done) | (simp [List.take_add_one, *]; done) | grind [List.take_add_one])⟩, by omega⟩
      · have qp_7k94 := qp_7
        have hb_10k94 := hb_10
        replace S := S.mono_heap (w' := World.drew _) rfl
        refine DG_end (C := fun x w => agree M_9 w) (bf := (fun i => [])) [0, 1, 2, 5, 6, 7, 10, 11, 12, 15, 16, 17] [0, 1, 2, 5, 6, 7, 10, 11, 12, 13, 8, 3, 4, 9, 14, 15, 16, 17] (by kernel_rfl) (fun x hq => S.imm) ?_
        refine D_v E rfl rfl rfl (fun w hC => (R_move E rfl)) ?_
        clear E a; intro a E
        refine D_v E rfl rfl rfl (fun w hC => (R_fieldAddr E rfl (FA72_0 _))) ?_
        clear E a; intro a E
        refine D_v E rfl rfl rfl (fun w hC => (R_loadM E rfl Try.isAgg3 hC (cellM_boxo hb_10k94 rfl))) ?_
        clear E a; intro a E
        refine D_v E rfl rfl rfl (fun w hC => (R_move E rfl)) ?_
        clear E a; intro a E
        refine D_v E rfl rfl rfl (fun w hC => (R_fieldAddr E rfl (FA72_1 _))) ?_
        clear E a; intro a E
        refine D_v E rfl rfl rfl (fun w hC => (R_loadM E rfl Try.isAgg3 hC (cellM_boxo hb_10k94 rfl))) ?_
        clear E a; intro a E
        refine D_v E rfl rfl rfl (fun w hC => (R_move E rfl)) ?_
        clear E a; intro a E
        refine D_v E rfl rfl rfl (fun w hC => (R_fieldAddr E rfl (FA72_2 _))) ?_
        clear E a; intro a E
        refine D_v E rfl rfl rfl (fun w hC => (R_loadM E rfl Try.isAgg3 hC (cellM_boxo hb_10k94 rfl))) ?_
        clear E a; intro a E
        refine D_x rfl rfl rfl (X_buildI (ys := [x_6.2.2]) E S rfl T24 rfl rfl rfl ?_)
        clear E a S; rintro a w v_95 E S
        refine ⟨fun x hq hb => (agree_le (Hp.le.refl _) S.imm), ?_⟩
        refine D_x rfl rfl rfl (X_buildI (ys := [x_6.2.1]) E S rfl T24 rfl rfl rfl ?_)
        clear E a S; rintro a w v_96 E S
        refine ⟨fun x hq hb => (agree_le (Hp.le.refl _) S.imm), ?_⟩
        refine D_x rfl rfl rfl (X_buildI (ys := [x_6.1]) E S rfl T24 rfl rfl rfl ?_)
        clear E a S; rintro a w v_97 E S
        refine ⟨fun x hq hb => (agree_le (Hp.le.refl _) S.imm), ?_⟩
        replace S := S.front3
        replace S := S.front1
        refine D_x rfl rfl rfl (X_appendB (xs := (l0.take k).map (fun p => p.1)) (ys := [x_6.1]) E S rfl rfl rfl T24 (by (simp only [List.length_take, List.length_map, List.length_cons, List.length_nil]; omega)) ?_)
        clear E a S; rintro a w v_98 E S
        refine ⟨fun x hq hb => (agree_le (Hp.le.refl _) S.imm), ?_⟩
        replace S := S.front3
        replace S := S.front2
        refine D_x rfl rfl rfl (X_appendB (xs := (l0.take k).map (fun p => p.2.1)) (ys := [x_6.2.1]) E S rfl rfl rfl T24 (by (simp only [List.length_take, List.length_map, List.length_cons, List.length_nil]; omega)) ?_)
        clear E a S; rintro a w v_99 E S
        refine ⟨fun x hq hb => (agree_le (Hp.le.refl _) S.imm), ?_⟩
        replace S := S.front3
        replace S := S.front3
        refine D_x rfl rfl rfl (X_appendB (xs := (l0.take k).map (fun p => p.2.2)) (ys := [x_6.2.2]) E S rfl rfl rfl T24 (by (simp only [List.length_take, List.length_map, List.length_cons, List.length_nil]; omega)) ?_)
        clear E a S; rintro a w v_100 E S
        refine ⟨fun x hq hb => (agree_le (Hp.le.refl _) S.imm), ?_⟩
        refine D_v E rfl rfl rfl (fun w hC => (R_assign E rfl)) ?_
        clear E a; intro a E
        refine D_v E rfl rfl rfl (fun w hC => (R_assign E rfl)) ?_
        clear E a; intro a E
        refine D_v E rfl rfl rfl (fun w hC => (R_assign E rfl)) ?_
        clear E a; intro a E
        refine D_end (NoP_n ?_)
        refine B_n ?_
        refine T_n ?_
        refine WP_region ?_
        refine S_v E rfl (R_addx (m := ((k + 1 : Nat) : Int)) E rfl rfl (by omega) (by omega)) rfl ?_
        clear E a; intro a E
        refine S_v E rfl (R_move E rfl) rfl ?_
        clear E a; intro a E
        refine WL_nil ?_
        refine T_n ?_
        replace S := S.front1
        replace S := S.front2
        replace S := S.front2
        replace S := S.re1 (l' := (l0.take (k + 1)).map (fun p => p.2.2)) (by first | (simp; done) | (rw [tk_snoc (by assumption), List.map_append]; rfl))
        replace S := S.front2
        replace S := S.re1 (l' := (l0.take (k + 1)).map (fun p => p.2.1)) (by first | (simp; done) | (rw [tk_snoc (by assumption), List.map_append]; rfl))
        replace S := S.front2
        replace S := S.re1 (l' := (l0.take (k + 1)).map (fun p => p.1)) (by first | (simp; done) | (rw [tk_snoc (by assumption), List.map_append]; rfl))
        exact ⟨k + 1, ⟨M_9, _, _, _, (hM_4.trans hM_9), S, E.keep ⟨rfl, rfl, rfl, rfl, rfl, rfl, trivial⟩, by ((try clear S); (try clear E); first | assumption | omega | rfl | (simp; done) | (simp_all; done) | (simp [List.take_add_one, *]; done) | grind [List.take_add_one])⟩, by omega⟩
  · replace hc_5 := of_decide_eq_false hc_5
    refine WP_exit ?_
    refine T_x ?_
    refine T_x ?_
    refine B_x ?_
    refine T_n ?_
    refine WP_seq ?_
    refine WP_region ?_
    refine S_v E rfl (R_move E rfl) rfl ?_
    clear E a; intro a E
    refine S_v E rfl (R_move E rfl) rfl ?_
    clear E a; intro a E
    refine S_v E rfl (R_move E rfl) rfl ?_
    clear E a; intro a E
    refine S_v E rfl (R_assign E rfl) rfl ?_
    clear E a; intro a E
    refine S_v E rfl (R_assign E rfl) rfl ?_
    clear E a; intro a E
    refine S_v E rfl (R_assign E rfl) rfl ?_
    clear E a; intro a E
    refine WL_nil ?_
    refine T_n ?_
    refine WP_ret ?_
    have S0 := S; clear S
    obtain ⟨M_101, hM_101, hz_102, S⟩ := S0.freezeI (by (first | omega | (simp; done) | (simp only [List.length_take, List.length_map]; omega)))
    clear S0
    replace h0 := h0.le RP3_mono hM_101
    have S0 := S; clear S
    obtain ⟨M_103, hM_103, hz_104, S⟩ := S0.freezeI (by (first | omega | (simp; done) | (simp only [List.length_take, List.length_map]; omega)))
    clear S0
    replace h0 := h0.le RP3_mono hM_103
    replace hz_102 := hz_102.le hM_103
    have S0 := S; clear S
    obtain ⟨M_105, hM_105, hz_106, S⟩ := S0.freezeI (by (first | omega | (simp; done) | (simp only [List.length_take, List.length_map]; omega)))
    clear S0
    replace h0 := h0.le RP3_mono hM_105
    replace hz_102 := hz_102.le hM_105
    replace hz_104 := hz_104.le hM_105
    exact F_ret3 E Try.results68 rfl rfl rfl ⟨_, rfl, M_105, (hM_4.trans (hM_101.trans (hM_103.trans hM_105))), ⟨_, _, _, rfl, (by rw [show ((l0).map (fun p => p.1)) = ((l0.take k).map (fun p => p.1)) from by (rw [List.take_of_length_le (by omega)])]; exact hz_102), (by rw [show ((l0).map (fun p => p.2.1)) = ((l0.take k).map (fun p => p.2.1)) from by (rw [List.take_of_length_le (by omega)])]; exact hz_104), (by rw [show ((l0).map (fun p => p.2.2)) = ((l0.take k).map (fun p => p.2.2)) from by (rw [List.take_of_length_le (by omega)])]; exact hz_106)⟩, S⟩

set_option maxRecDepth 100000 in
set_option maxHeartbeats 4000000 in
theorem spec_NthOr {M : Hp} {v0 : Value} {l0 : List Int} (h0 : RdI M v0 l0){x1 : Int} (g1 : -1000000 ≤ x1 ∧ x1 ≤ 1000000) {x2 : Int} :
    Pu Try.prog (.func (.func 157) #[] #[]) M [v0, .int .i64 x1, .int .i64 x2] (fun r M' => r = .int .i64 ((nthL l0 x1).getD x2)) := by
  refine Pu_enter Try.func157 rfl Try.ntmps157 rfl Try.call157 ?_
  intro a w M1 H hM1 S E
  replace h0 := h0.le hM1
  have b0 := h0.bound
  refine WP_seq ?_
  refine WP_region ?_
  refine S_v E rfl (R_assign E rfl) rfl ?_
  clear E a; intro a E
  refine WL_nil ?_
  refine T_n ?_
  refine WP_seq ?_
  refine WP_seq ?_
  refine WP_region ?_
  refine S_v E rfl (R_move E rfl) rfl ?_
  clear E a; intro a E
  refine S_v E rfl (R_lss E rfl rfl) rfl ?_
  clear E a; intro a E
  refine WL_nil ?_
  refine T_n ?_
  refine WP_cond E rfl (fun hc_1 => ?_) (fun hc_1 => ?_)
  · replace hc_1 := of_decide_eq_true hc_1
    refine WP_region ?_
    refine S_v E rfl (R_move E rfl) rfl ?_
    clear E a; intro a E
    refine S_v E rfl (R_move E rfl) rfl ?_
    clear E a; intro a E
    refine S_v E rfl (R_lenV E rfl T24 h0.len) rfl ?_
    clear E a; intro a E
    refine S_v E rfl (R_addx (m := x1 + (((l0).length : Nat) : Int)) E rfl rfl (by omega) (by omega)) rfl ?_
    clear E a; intro a E
    refine S_v E rfl (R_assign E rfl) rfl ?_
    clear E a; intro a E
    refine WL_nil ?_
    refine T_n ?_
    refine WP_seq ?_
    refine WP_seq ?_
    refine WP_region ?_
    refine S_v E rfl (R_move E rfl) rfl ?_
    clear E a; intro a E
    refine S_v E rfl (R_lss E rfl rfl) rfl ?_
    clear E a; intro a E
    refine S_v E rfl (R_move E rfl) rfl ?_
    clear E a; intro a E
    refine split_bool (decide (x1 + (((l0).length : Nat) : Int) < 0)) (fun hc_2 => ?_) (fun hc_2 => ?_)
    · replace E := E.val (t := 14) rfl hc_2
      replace E := E.val (t := 15) rfl hc_2
      replace hc_2 := of_decide_eq_true hc_2
      refine WL_guard_no E rfl rfl rfl rfl fun a E => ?_
      refine WL_guard_no E rfl rfl rfl rfl fun a E => ?_
      refine WL_guard_no E rfl rfl rfl rfl fun a E => ?_
      refine WL_guard_no E rfl rfl rfl rfl fun a E => ?_
      refine S_v E rfl (R_pickT E rfl rfl) rfl ?_
      clear E a; intro a E
      refine WL_nil ?_
      refine T_n ?_
      refine WP_condT E rfl rfl ?_
      refine WP_seq ?_
      refine WP_region ?_
      refine S_v E rfl (R_move E rfl) rfl ?_
      clear E a; intro a E
      refine S_v E rfl (R_assign E rfl) rfl ?_
      clear E a; intro a E
      refine WL_nil ?_
      refine T_n ?_
      refine WP_ret ?_
      refine T_r ?_
      exact F_ret1 E Try.results157 rfl ⟨_, rfl, M1, (Hp.le.refl _), (congrArg (Value.int .i64) (by (rw [nthL_none (by omega)]; rfl))), S⟩
    · replace E := E.val (t := 14) rfl hc_2
      replace E := E.val (t := 15) rfl hc_2
      replace hc_2 := of_decide_eq_false hc_2
      refine WL_guard_yes E rfl rfl ?_
      refine S_v E rfl (R_move E rfl) rfl ?_
      clear E a; intro a E
      refine WL_guard_yes E rfl rfl ?_
      refine S_v E rfl (R_move E rfl) rfl ?_
      clear E a; intro a E
      refine WL_guard_yes E rfl rfl ?_
      refine S_v E rfl (R_lenV E rfl T24 h0.len) rfl ?_
      clear E a; intro a E
      refine WL_guard_yes E rfl rfl ?_
      refine S_v E rfl (R_geq E rfl rfl) rfl ?_
      clear E a; intro a E
      refine S_v E rfl (R_pickF E rfl rfl) rfl ?_
      clear E a; intro a E
      refine WL_nil ?_
      refine T_n ?_
      refine WP_cond E rfl (fun hc_3 => ?_) (fun hc_3 => ?_)
      · replace hc_3 := of_decide_eq_true hc_3
        refine WP_seq ?_
        refine WP_region ?_
        refine S_v E rfl (R_move E rfl) rfl ?_
        clear E a; intro a E
        refine S_v E rfl (R_assign E rfl) rfl ?_
        clear E a; intro a E
        refine WL_nil ?_
        refine T_n ?_
        refine WP_ret ?_
        refine T_r ?_
        exact F_ret1 E Try.results157 rfl ⟨_, rfl, M1, (Hp.le.refl _), (congrArg (Value.int .i64) (by (rw [nthL_none (by omega)]; rfl))), S⟩
      · replace hc_3 := of_decide_eq_false hc_3
        refine WP_skip ?_
        refine T_n ?_
        refine WP_seq ?_
        refine WP_region ?_
        refine S_v E rfl (R_move E rfl) rfl ?_
        clear E a; intro a E
        refine S_v E rfl (R_move E rfl) rfl ?_
        clear E a; intro a E
        obtain ⟨x_4, hx_4⟩ : ∃ x, (l0)[(x1 + (((l0).length : Nat) : Int)).toNat]? = some x := ⟨_, List.getElem?_eq_getElem (by first | omega | (simp; done) | (simp; omega) | (simp_all; omega))⟩
        obtain ⟨p_5, hp_5, qp_5⟩ := h0.at hx_4
        refine S_v E rfl (R_idx E rfl rfl T24 hp_5 (by omega)) rfl ?_
        clear E a; intro a E
        refine S_v E rfl (R_loadM E rfl Try.isAgg3 S.imm qp_5) rfl ?_
        clear E a; intro a E
        refine S_v E rfl (R_assign E rfl) rfl ?_
        clear E a; intro a E
        refine WL_nil ?_
        refine T_n ?_
        refine WP_ret ?_
        exact F_ret1 E Try.results157 rfl ⟨_, rfl, M1, (Hp.le.refl _), (congrArg (Value.int .i64) (by (first | (rw [nthL_pos (by omega) (by assumption)]; rfl) | (rw [nthL_neg (by omega) (by omega) (by rw [show (↑l0.length + x1).toNat = (x1 + ↑l0.length).toNat by omega]; assumption)]; rfl)))), S⟩
  · replace hc_1 := of_decide_eq_false hc_1
    refine WP_skip ?_
    refine T_n ?_
    refine WP_seq ?_
    refine WP_seq ?_
    refine WP_region ?_
    refine S_v E rfl (R_move E rfl) rfl ?_
    clear E a; intro a E
    refine S_v E rfl (R_lss E rfl rfl) rfl ?_
    clear E a; intro a E
    refine S_v E rfl (R_move E rfl) rfl ?_
    clear E a; intro a E
    refine split_bool (decide (x1 < 0)) (fun hc_6 => ?_) (fun hc_6 => ?_)
    · replace E := E.val (t := 8) rfl hc_6
      replace E := E.val (t := 14) rfl hc_6
      replace E := E.val (t := 15) rfl hc_6
      replace hc_6 := of_decide_eq_true hc_6
      refine WL_guard_no E rfl rfl rfl rfl fun a E => ?_
      refine WL_guard_no E rfl rfl rfl rfl fun a E => ?_
      refine WL_guard_no E rfl rfl rfl rfl fun a E => ?_
      refine WL_guard_no E rfl rfl rfl rfl fun a E => ?_
      refine S_v E rfl (R_pickT E rfl rfl) rfl ?_
      clear E a; intro a E
      refine WL_nil ?_
      refine T_n ?_
      refine WP_condT E rfl rfl ?_
      refine WP_seq ?_
      refine WP_region ?_
      refine S_v E rfl (R_move E rfl) rfl ?_
      clear E a; intro a E
      refine S_v E rfl (R_assign E rfl) rfl ?_
      clear E a; intro a E
      refine WL_nil ?_
      refine T_n ?_
      refine WP_ret ?_
      refine T_r ?_
      exact F_ret1 E Try.results157 rfl ⟨_, rfl, M1, (Hp.le.refl _), (congrArg (Value.int .i64) (by (rw [nthL_none (by omega)]; rfl))), S⟩
    · replace E := E.val (t := 8) rfl hc_6
      replace E := E.val (t := 14) rfl hc_6
      replace E := E.val (t := 15) rfl hc_6
      replace hc_6 := of_decide_eq_false hc_6
      refine WL_guard_yes E rfl rfl ?_
      refine S_v E rfl (R_move E rfl) rfl ?_
      clear E a; intro a E
      refine WL_guard_yes E rfl rfl ?_
      refine S_v E rfl (R_move E rfl) rfl ?_
      clear E a; intro a E
      refine WL_guard_yes E rfl rfl ?_
      refine S_v E rfl (R_lenV E rfl T24 h0.len) rfl ?_
      clear E a; intro a E
      refine WL_guard_yes E rfl rfl ?_
      refine S_v E rfl (R_geq E rfl rfl) rfl ?_
      clear E a; intro a E
      refine S_v E rfl (R_pickF E rfl rfl) rfl ?_
      clear E a; intro a E
      refine WL_nil ?_
      refine T_n ?_
      refine WP_cond E rfl (fun hc_7 => ?_) (fun hc_7 => ?_)
      · replace hc_7 := of_decide_eq_true hc_7
        refine WP_seq ?_
        refine WP_region ?_
        refine S_v E rfl (R_move E rfl) rfl ?_
        clear E a; intro a E
        refine S_v E rfl (R_assign E rfl) rfl ?_
        clear E a; intro a E
        refine WL_nil ?_
        refine T_n ?_
        refine WP_ret ?_
        refine T_r ?_
        exact F_ret1 E Try.results157 rfl ⟨_, rfl, M1, (Hp.le.refl _), (congrArg (Value.int .i64) (by (rw [nthL_none (by omega)]; rfl))), S⟩
      · replace hc_7 := of_decide_eq_false hc_7
        refine WP_skip ?_
        refine T_n ?_
        refine WP_seq ?_
        refine WP_region ?_
        refine S_v E rfl (R_move E rfl) rfl ?_
        clear E a; intro a E
        refine S_v E rfl (R_move E rfl) rfl ?_
        clear E a; intro a E
        obtain ⟨x_8, hx_8⟩ : ∃ x, (l0)[(x1).toNat]? = some x := ⟨_, List.getElem?_eq_getElem (by first | omega | (simp; done) | (simp; omega) | (simp_all; omega))⟩
        obtain ⟨p_9, hp_9, qp_9⟩ := h0.at hx_8
        refine S_v E rfl (R_idx E rfl rfl T24 hp_9 (by omega)) rfl ?_
        clear E a; intro a E
        refine S_v E rfl (R_loadM E rfl Try.isAgg3 S.imm qp_9) rfl ?_
        clear E a; intro a E
        refine S_v E rfl (R_assign E rfl) rfl ?_
        clear E a; intro a E
        refine WL_nil ?_
        refine T_n ?_
        refine WP_ret ?_
        exact F_ret1 E Try.results157 rfl ⟨_, rfl, M1, (Hp.le.refl _), (congrArg (Value.int .i64) (by (first | (rw [nthL_pos (by omega) (by assumption)]; rfl) | (rw [nthL_neg (by omega) (by omega) (by rw [show (↑l0.length + x1).toNat = (x1 + ↑l0.length).toNat by omega]; assumption)]; rfl)))), S⟩

set_option maxRecDepth 100000 in
set_option maxHeartbeats 4000000 in
theorem spec_item {M : Hp} {v0 : Value} {l0 : List Int} (h0 : RdI M v0 l0){n1 : Nat} (hn : n1 ≤ 1000000) :
    Pu Try.prog (.func (.func 121) #[] #[]) M [v0, .int .i64 ((n1 : Nat) : Int)] (fun r M' => r = .int .i64 (g0 l0 n1)) := by
  refine Pu_enter Try.func121 rfl Try.ntmps121 rfl Try.call121 ?_
  intro a w M1 H hM1 S E
  replace h0 := h0.le hM1
  have b0 := h0.bound
  refine WP_seq ?_
  refine WP_region ?_
  refine S_v E rfl (R_assign E rfl) rfl ?_
  clear E a; intro a E
  refine WL_nil ?_
  refine T_n ?_
  refine WP_seq ?_
  refine WP_region ?_
  refine S_v E rfl (R_move E rfl) rfl ?_
  clear E a; intro a E
  refine S_v E rfl (R_move E rfl) rfl ?_
  clear E a; intro a E
  refine S_v E rfl (R_lenV E rfl T24 h0.len) rfl ?_
  clear E a; intro a E
  refine S_v E rfl (R_move E rfl) rfl ?_
  clear E a; intro a E
  refine S_v E rfl (R_addx (m := ((n1 + 1 : Nat) : Int)) E rfl rfl (by omega) (by omega)) rfl ?_
  clear E a; intro a E
  refine S_v E rfl (R_min (m := ((min ((l0).length) (n1 + 1) : Nat) : Int)) E rfl rfl (by omega)) rfl ?_
  clear E a; intro a E
  refine S_v E rfl (R_max (m := ((max 0 (min ((l0).length) (n1 + 1)) : Nat) : Int)) E rfl rfl (by omega)) rfl ?_
  clear E a; intro a E
  obtain ⟨v_1, sv_1, hv_1⟩ := h0.subv 0 (max 0 (min ((l0).length) (n1 + 1))) (by first | omega | (simp; done) | (simp; omega) | (simp_all; omega)) (by first | omega | (simp; done) | (simp; omega) | (simp_all; omega))
  simp only [List.drop_zero] at hv_1
  replace hv_1 : RdI M1 v_1 ((l0).take (max 0 (min ((l0).length) (n1 + 1)))) := hv_1
  refine S_v E rfl (R_sliceH E rfl rfl T24 sv_1 (by omega)) rfl ?_
  clear E a; intro a E
  refine S_v E rfl (R_move E rfl) rfl ?_
  clear E a; intro a E
  refine S_x (X_pu E S rfl rfl rfl (spec_NthOr hv_1 (by omega)) (Hp.le.refl _) ?_)
  clear E a S; rintro a _ w M_2 hM_2 rfl S E
  replace h0 := h0.le hM_2
  replace hv_1 := hv_1.le hM_2
  refine S_v E rfl (R_assign E rfl) rfl ?_
  clear E a; intro a E
  refine WL_nil ?_
  refine T_n ?_
  refine WP_ret ?_
  exact F_ret1 E Try.results121 rfl ⟨_, rfl, M_2, hM_2, (congrArg (Value.int .i64) (by (exact item_eq))), S⟩

set_option maxRecDepth 100000 in
set_option maxHeartbeats 4000000 in
theorem spec_Zip3 {M : Hp} {v0 v1 v2 : Value} {l0 l1 l2 : List Int} (h0 : RdI M v0 l0) (h1 : RdI M v1 l1) (h2 : RdI M v2 l2) (hb0 : l0.length ≤ 1000000) (hb1 : l1.length ≤ 1000000) (hb2 : l2.length ≤ 1000000) :
    Pu Try.prog (.func (.func 71) #[] #[]) M [v0, v1, v2] (fun r M' => RdS 3 RP3 M' r (zi3 (max (max l0.length l1.length) l2.length) l0 l1 l2)) := by
  refine Pu_enter Try.func71 rfl Try.ntmps71 rfl Try.call71 ?_
  intro a w M1 H hM1 S E
  replace h0 := h0.le hM1
  replace h1 := h1.le hM1
  replace h2 := h2.le hM1
  have b0 := h0.bound
  have b1 := h1.bound
  have b2 := h2.bound
  have hzl := zi3_len (max (max l0.length l1.length) l2.length) l0 l1 l2
  refine WP_seq ?_
  refine WP_region ?_
  refine S_v E rfl (R_assign E rfl) rfl ?_
  clear E a; intro a E
  refine WL_nil ?_
  refine T_n ?_
  refine WP_seq ?_
  refine WP_region ?_
  refine S_v E rfl (R_assign E rfl) rfl ?_
  clear E a; intro a E
  refine WL_nil ?_
  refine T_n ?_
  refine WP_seq ?_
  refine WP_seq ?_
  refine WP_region ?_
  refine S_v E rfl (R_assign E rfl) rfl ?_
  clear E a; intro a E
  refine WL_nil ?_
  refine T_n ?_
  refine WP_block ?_
  replace S : St w M1 (OwnC 72 3 (.slice none 0 0) ([] : List (Int × Int × Int)).length [] :: _) := S.ownNil
  have hr_2 : RowsR RP3 3 M1 ([] : List (Int × Int × Int)) [] := RowsR.nil
  have hre : ([] : List (Int × Int × Int)) = (zi3 (max (max l0.length l1.length) l2.length) l0 l1 l2).take 0 := by first | (simp; done) | exact zi3_step (by omega)
  replace S := S.reR hre
  replace hr_2 := hr_2.eq hre
  clear hre
  refine WP_loop (γ := Nat) (fun (k : Nat) a w => ∃ (M_3 : Hp) (u7 : Value) (xs7 : List Value), Hp.le M1 M_3 ∧ St w M_3 (OwnC 72 3 u7 ((zi3 (max (max l0.length l1.length) l2.length) l0 l1 l2).take k).length xs7 :: H) ∧ Env a 34 [] [(0, v0), (1, v1), (2, v2), (7, u7), (8, .int .i64 ((k : Nat) : Int))] ∧ (k ≤ max (max l0.length l1.length) l2.length) ∧ RowsR RP3 3 M_3 ((zi3 (max (max l0.length l1.length) l2.length) l0 l1 l2).take k) xs7) (fun k => max (max l0.length l1.length) l2.length - k) 0 ⟨M1, _, _, Hp.le.refl _, S, E.keep ⟨rfl, rfl, rfl, rfl, rfl, trivial⟩, by ((try clear S); (try clear E); first | assumption | omega | rfl | (simp; done) | (simp_all; done) | (simp [List.take_add_one, *]; done) | grind [List.take_add_one]), hr_2⟩ ?_
  try clear E
  try clear S
  try clear a
  try clear w
  rintro k a w ⟨M_3, u7, xs7, hM_3, S, E, hL0_0, hr7⟩
  replace h0 := h0.le hM_3
  replace h1 := h1.le hM_3
  replace h2 := h2.le hM_3
  refine WP_seq ?_
  refine WP_seq ?_
  refine WP_region ?_
  refine S_v E rfl (R_move E rfl) rfl ?_
  clear E a; intro a E
  refine S_v E rfl (R_move E rfl) rfl ?_
  clear E a; intro a E
  refine S_v E rfl (R_lenV E rfl T24 h0.len) rfl ?_
  clear E a; intro a E
  refine S_v E rfl (R_move E rfl) rfl ?_
  clear E a; intro a E
  refine S_v E rfl (R_lenV E rfl T24 h1.len) rfl ?_
  clear E a; intro a E
  refine S_v E rfl (R_move E rfl) rfl ?_
  clear E a; intro a E
  refine S_v E rfl (R_lenV E rfl T24 h2.len) rfl ?_
  clear E a; intro a E
  refine S_v E rfl (R_max3 (m := ((max (max ((l0).length) ((l1).length)) ((l2).length) : Nat) : Int)) E rfl rfl rfl (by omega)) rfl ?_
  clear E a; intro a E
  refine S_v E rfl (R_lss E rfl rfl) rfl ?_
  clear E a; intro a E
  refine WL_nil ?_
  refine T_n ?_
  refine WP_cond E rfl (fun hc_4 => ?_) (fun hc_4 => ?_)
  · replace hc_4 := of_decide_eq_true hc_4
    refine WP_skip ?_
    refine T_n ?_
    refine WP_seq ?_
    refine WP_block ?_
    refine WP_region ?_
    refine S_v E rfl (R_move E rfl) rfl ?_
    clear E a; intro a E
    refine S_v E rfl (R_move E rfl) rfl ?_
    clear E a; intro a E
    refine S_v E rfl (R_move E rfl) rfl ?_
    clear E a; intro a E
    refine S_x (X_pu E S rfl rfl rfl (spec_item h0 (by first | omega | (simp; omega))) (Hp.le.refl _) ?_)
    clear E a S; rintro a _ w M_5 hM_5 rfl S E
    replace h0 := h0.le hM_5
    replace h1 := h1.le hM_5
    replace h2 := h2.le hM_5
    replace hr7 := hr7.le RP3_mono hM_5
    refine S_v E rfl (R_move E rfl) rfl ?_
    clear E a; intro a E
    refine S_v E rfl (R_move E rfl) rfl ?_
    clear E a; intro a E
    refine S_x (X_pu E S rfl rfl rfl (spec_item h1 (by first | omega | (simp; omega))) (Hp.le.refl _) ?_)
    clear E a S; rintro a _ w M_6 hM_6 rfl S E
    replace h0 := h0.le hM_6
    replace h1 := h1.le hM_6
    replace h2 := h2.le hM_6
    replace hr7 := hr7.le RP3_mono hM_6
    refine S_v E rfl (R_move E rfl) rfl ?_
    clear E a; intro a E
    refine S_v E rfl (R_move E rfl) rfl ?_
    clear E a; intro a E
    refine S_x (X_pu E S rfl rfl rfl (spec_item h2 (by first | omega | (simp; omega))) (Hp.le.refl _) ?_)
    clear E a S; rintro a _ w M_7 hM_7 rfl S E
    replace h0 := h0.le hM_7
    replace h1 := h1.le hM_7
    replace h2 := h2.le hM_7
    replace hr7 := hr7.le RP3_mono hM_7
    refine S_v E rfl (R_build (u := .agg #[.int .i64 (g0 l0 k), .int .i64 (g0 l1 k), .int .i64 (g0 l2 k)]) (vs := [.int .i64 (g0 l0 k), .int .i64 (g0 l1 k), .int .i64 (g0 l2 k)]) E rfl (fun w => FB72_0_1_2_iii (g0 l0 k) (g0 l1 k) (g0 l2 k) w)) rfl ?_
    clear E a; intro a E
    refine S_x (X_buildA1 (R := RP3) (cs := [.int .i64 (g0 l0 k), .int .i64 (g0 l1 k), .int .i64 (g0 l2 k)]) (x0 := (g0 l0 k, g0 l1 k, g0 l2 k)) RP3_mono E S rfl T58 rfl rfl rfl rfl ?_)
    clear E a S; rintro a v_8 w M_9 hM_9 hv_8 S E
    replace h0 := h0.le hM_9
    replace h1 := h1.le hM_9
    replace h2 := h2.le hM_9
    replace hr7 := hr7.le RP3_mono hM_9
    refine S_x (X_appendR (R := RP3) (zs := (zi3 (max (max l0.length l1.length) l2.length) l0 l1 l2).take k) (ys := [(g0 l0 k, g0 l1 k, g0 l2 k)]) E S hr7 rfl rfl rfl T58 hv_8 one_RP3 (by (simp only [List.length_take, List.length_map, List.length_cons, List.length_nil]; omega)) (by (simp only [List.length_take, List.length_map, List.length_cons, List.length_nil]; omega)) ?_)
    clear E a S; rintro a w v_10 xs_11 E hr_12 S
    refine S_v E rfl (R_assign E rfl) rfl ?_
    clear E a; intro a E
    refine WL_nil ?_
    refine B_n ?_
    refine T_n ?_
    refine WP_region ?_
    refine S_v E rfl (R_move E rfl) rfl ?_
    clear E a; intro a E
    refine S_v E rfl (R_addx (m := ((k + 1 : Nat) : Int)) E rfl rfl (by omega) (by omega)) rfl ?_
    clear E a; intro a E
    refine S_v E rfl (R_assign E rfl) rfl ?_
    clear E a; intro a E
    refine WL_nil ?_
    refine T_n ?_
    have hre : ((zi3 (max (max l0.length l1.length) l2.length) l0 l1 l2).take k) ++ [(g0 l0 k, g0 l1 k, g0 l2 k)] = (zi3 (max (max l0.length l1.length) l2.length) l0 l1 l2).take (k + 1) := by first | (simp; done) | exact zi3_step (by omega)
    replace S := S.reR hre
    replace hr_12 := hr_12.eq hre
    clear hre
    exact ⟨k + 1, ⟨M_9, _, _, (hM_3.trans (hM_5.trans (hM_6.trans (hM_7.trans hM_9)))), S, E.keep ⟨rfl, rfl, rfl, rfl, rfl, trivial⟩, by ((try clear S); (try clear E); first | assumption | omega | rfl | (simp; done) | (simp_all; done) | (simp [List.take_add_one, *]; done) | grind [List.take_add_one]), hr_12⟩, by omega⟩
  · replace hc_4 := of_decide_eq_false hc_4
    refine WP_exit ?_
    refine T_x ?_
    refine T_x ?_
    refine B_x ?_
    refine T_n ?_
    refine WP_seq ?_
    refine WP_region ?_
    refine S_v E rfl (R_move E rfl) rfl ?_
    clear E a; intro a E
    refine S_v E rfl (R_assign E rfl) rfl ?_
    clear E a; intro a E
    refine WL_nil ?_
    refine T_n ?_
    refine WP_ret ?_
    have S0 := S; clear S
    obtain ⟨M_13, hM_13, hz_14, S⟩ := S0.freezeR hr7 RP3_mono (by (first | omega | (simp; done) | (simp only [List.length_take, List.length_map]; omega)))
    clear S0
    replace h0 := h0.le hM_13
    replace h1 := h1.le hM_13
    replace h2 := h2.le hM_13
    exact F_ret1 E Try.results71 rfl ⟨_, rfl, M_13, (hM_3.trans hM_13), (by rw [show (zi3 (max (max l0.length l1.length) l2.length) l0 l1 l2) = ((zi3 (max (max l0.length l1.length) l2.length) l0 l1 l2).take k) from by (rw [List.take_of_length_le (by omega)])]; exact hz_14), S⟩

set_option maxRecDepth 100000 in
set_option maxHeartbeats 4000000 in
theorem spec_Zip2 {M : Hp} {v0 v1 : Value} {l0 l1 : List Int} (h0 : RdI M v0 l0) (h1 : RdI M v1 l1) (hb0 : l0.length ≤ 1000000) (hb1 : l1.length ≤ 1000000) :
    Pu Try.prog (.func (.func 69) #[] #[]) M [v0, v1] (fun r M' => RdS 2 RP2 M' r (zi2 (max l0.length l1.length) l0 l1)) := by
  refine Pu_enter Try.func69 rfl Try.ntmps69 rfl Try.call69 ?_
  intro a w M1 H hM1 S E
  replace h0 := h0.le hM1
  replace h1 := h1.le hM1
  have b0 := h0.bound
  have b1 := h1.bound
  have hzl := zi3_len (max (max l0.length l1.length) ([] : List Int).length) l0 l1 []
  have hnl : ([] : List Int).length = 0 := rfl
  refine WP_seq ?_
  refine WP_region ?_
  refine S_v E rfl (R_assign E rfl) rfl ?_
  clear E a; intro a E
  refine WL_nil ?_
  refine T_n ?_
  refine WP_seq ?_
  refine WP_region ?_
  refine S_v E rfl (R_assign E rfl) rfl ?_
  clear E a; intro a E
  refine WL_nil ?_
  refine T_n ?_
  refine WP_seq ?_
  refine WP_seq ?_
  refine WP_region ?_
  refine S_v E rfl (R_move E rfl) rfl ?_
  clear E a; intro a E
  refine S_v E rfl (R_move E rfl) rfl ?_
  clear E a; intro a E
  refine S_x (X_pu E S rfl rfl rfl (spec_Zip3 h0 h1 (RdS.nil _) (by first | omega | (simp; done) | (simp; omega)) (by first | omega | (simp; done) | (simp; omega)) (by first | omega | (simp; done) | (simp; omega))) (Hp.le.refl _) ?_)
  clear E a S; rintro a v_2 w M_1 hM_1 hv_2 S E
  replace h0 := h0.le hM_1
  replace h1 := h1.le hM_1
  refine S_v E rfl (R_lenV E rfl T58 hv_2.len) rfl ?_
  clear E a; intro a E
  refine S_v E rfl (R_move E rfl) rfl ?_
  clear E a; intro a E
  refine WL_nil ?_
  refine T_n ?_
  refine WP_block ?_
  replace S : St w M_1 (OwnC 71 2 (.slice none 0 0) ([] : List (Int × Int)).length [] :: _) := S.ownNil
  have hr_4 : RowsR RP2 2 M_1 ([] : List (Int × Int)) [] := RowsR.nil
  have hre : ([] : List (Int × Int)) = ((zi3 (max (max l0.length l1.length) ([] : List Int).length) l0 l1 ([] : List Int)).take 0).map (fun p => (p.1, p.2.1)) := by first | (simp; done) | (rw [tk_snoc (by assumption), List.map_append]; rfl)
  replace S := S.reR hre
  replace hr_4 := hr_4.eq hre
  clear hre
  refine WP_loop (γ := Nat) (fun (k : Nat) a w => ∃ (M_5 : Hp) (u5 : Value) (xs5 : List Value), Hp.le M_1 M_5 ∧ St w M_5 (OwnC 71 2 u5 (((zi3 (max (max l0.length l1.length) ([] : List Int).length) l0 l1 ([] : List Int)).take k).map (fun p => (p.1, p.2.1))).length xs5 :: H) ∧ Env a 26 [] [(5, u5), (10, v_2), (11, .int .i64 (((zi3 (max (max l0.length l1.length) ([] : List Int).length) l0 l1 ([] : List Int)).length : Nat) : Int)), (12, .int .i64 ((k : Nat) : Int))] ∧ (k ≤ (zi3 (max (max l0.length l1.length) ([] : List Int).length) l0 l1 ([] : List Int)).length) ∧ RowsR RP2 2 M_5 (((zi3 (max (max l0.length l1.length) ([] : List Int).length) l0 l1 ([] : List Int)).take k).map (fun p => (p.1, p.2.1))) xs5) (fun k => ((zi3 (max (max l0.length l1.length) ([] : List Int).length) l0 l1 ([] : List Int)).length) - k) 0 ⟨M_1, _, _, Hp.le.refl _, S, E.keep ⟨rfl, rfl, rfl, rfl, trivial⟩, by ((try clear S); (try clear E); first | assumption | omega | rfl | (simp; done) | (simp_all; done) | (simp [List.take_add_one, *]; done) | grind [List.take_add_one]), hr_4⟩ ?_
  try clear E
  try clear S
  try clear a
  try clear w
  rintro k a w ⟨M_5, u5, xs5, hM_5, S, E, hL0_0, hr5⟩
  replace h0 := h0.le hM_5
  replace h1 := h1.le hM_5
  replace hv_2 := hv_2.le RP3_mono hM_5
  refine WP_seq ?_
  refine WP_region ?_
  refine S_v E rfl (R_lss E rfl rfl) rfl ?_
  clear E a; intro a E
  refine WL_nil ?_
  refine T_n ?_
  refine WP_seq ?_
  refine WP_cond E rfl (fun hc_6 => ?_) (fun hc_6 => ?_)
  · replace hc_6 := of_decide_eq_true hc_6
    refine WP_skip ?_
    refine T_n ?_
    refine WP_seq ?_
    refine WP_block ?_
    refine WP_seq ?_
    refine WP_region ?_
    obtain ⟨x_7, hx_7⟩ : ∃ x, (zi3 (max (max l0.length l1.length) ([] : List Int).length) l0 l1 ([] : List Int))[k]? = some x := ⟨_, List.getElem?_eq_getElem (by first | omega | (simp; done) | (simp; omega) | (simp_all; omega))⟩
    obtain ⟨p_8, hp_8, qp_8⟩ := RdP3.at hv_2 hx_7
    refine S_v E rfl (R_idx E rfl rfl T58 hp_8 rfl) rfl ?_
    clear E a; intro a E
    refine S_v E rfl (R_loadA (cs := [.int .i64 x_7.1, .int .i64 x_7.2.1, .int .i64 x_7.2.2]) E rfl (Try.isAgg72 _) (Try.sizeOf72 _) S.imm qp_8) rfl ?_
    clear E a; intro a E
    refine S_x (X_alloc (cs := #[.int .i64 0, .int .i64 0, .int .i64 0]) E S rfl Try.zeroValue72 rfl ?_)
    clear E a S; rintro a w b_9 E S
    refine S_x0 (X_storeG (us := [.int .i64 x_7.1, .int .i64 x_7.2.1, .int .i64 x_7.2.2]) E S rfl rfl (Try.sizeOf72 _) rfl (by intro u hu; simp only [List.mem_cons, List.not_mem_nil, or_false] at hu; rcases hu with rfl | rfl | rfl <;> first | exact rfl | exact rfl | exact rfl) ?_)
    clear E a S; rintro a w E S
    replace S : St w M_5 (blk b_9 (.cells #[.int .i64 x_7.1, .int .i64 x_7.2.1, .int .i64 x_7.2.2] 72) :: _) := S
    have S0 := S; clear S
    obtain ⟨M_10, hM_10, hb_11, S⟩ := S0.freezeB
    clear S0
    replace h0 := h0.le hM_10
    replace h1 := h1.le hM_10
    replace hv_2 := hv_2.le RP3_mono hM_10
    replace hr5 := hr5.le RP2_mono hM_10
    refine WL_nil ?_
    refine T_n ?_
    refine WP_region ?_
    refine S_v E rfl (R_move E rfl) rfl ?_
    clear E a; intro a E
    refine S_v E rfl (R_fieldAddr E rfl (FA72_0 _)) rfl ?_
    clear E a; intro a E
    refine S_v E rfl (R_loadM E rfl Try.isAgg3 S.imm (cellM_boxo hb_11 rfl)) rfl ?_
    clear E a; intro a E
    refine S_v E rfl (R_fieldAddr E rfl (FA72_1 _)) rfl ?_
    clear E a; intro a E
    refine S_v E rfl (R_loadM E rfl Try.isAgg3 S.imm (cellM_boxo hb_11 rfl)) rfl ?_
    clear E a; intro a E
    refine S_v E rfl (R_build (u := .agg #[.int .i64 x_7.1, .int .i64 x_7.2.1]) (vs := [.int .i64 x_7.1, .int .i64 x_7.2.1]) E rfl (fun w => FB71_0_1_ii x_7.1 x_7.2.1 w)) rfl ?_
    clear E a; intro a E
    refine S_x (X_buildA1 (R := RP2) (cs := [.int .i64 x_7.1, .int .i64 x_7.2.1]) (x0 := (x_7.1, x_7.2.1)) RP2_mono E S rfl T61 rfl rfl rfl rfl ?_)
    clear E a S; rintro a v_12 w M_13 hM_13 hv_12 S E
    replace h0 := h0.le hM_13
    replace h1 := h1.le hM_13
    replace hv_2 := hv_2.le RP3_mono hM_13
    replace hr5 := hr5.le RP2_mono hM_13
    replace hb_11 := hM_13.2 _ _ hb_11
    refine S_x (X_appendR (R := RP2) (zs := ((zi3 (max (max l0.length l1.length) ([] : List Int).length) l0 l1 ([] : List Int)).take k).map (fun p => (p.1, p.2.1))) (ys := [(x_7.1, x_7.2.1)]) E S hr5 rfl rfl rfl T61 hv_12 one_RP2 (by (simp only [List.length_take, List.length_map, List.length_cons, List.length_nil]; omega)) (by (simp only [List.length_take, List.length_map, List.length_cons, List.length_nil]; omega)) ?_)
    clear E a S; rintro a w v_14 xs_15 E hr_16 S
    refine S_v E rfl (R_assign E rfl) rfl ?_
    clear E a; intro a E
    refine WL_nil ?_
    refine B_n ?_
    refine T_n ?_
    refine WP_region ?_
    refine S_v E rfl (R_addx (m := ((k + 1 : Nat) : Int)) E rfl rfl (by omega) (by omega)) rfl ?_
    clear E a; intro a E
    refine S_v E rfl (R_move E rfl) rfl ?_
    clear E a; intro a E
    refine WL_nil ?_
    refine T_n ?_
    have hre : (((zi3 (max (max l0.length l1.length) ([] : List Int).length) l0 l1 ([] : List Int)).take k).map (fun p => (p.1, p.2.1))) ++ [(x_7.1, x_7.2.1)] = ((zi3 (max (max l0.length l1.length) ([] : List Int).length) l0 l1 ([] : List Int)).take (k + 1)).map (fun p => (p.1, p.2.1)) := by first | (simp; done) | (rw [tk_snoc (by assumption), List.map_append]; rfl)
    replace S := S.reR hre
    replace hr_16 := hr_16.eq hre
    clear hre
    exact ⟨k + 1, ⟨M_13, _, _, (hM_5.trans (hM_10.trans hM_13)), S, E.keep ⟨rfl, rfl, rfl, rfl, trivial⟩, by ((try clear S); (try clear E); first | assumption | omega | rfl | (simp; done) | (simp_all; done) | (simp [List.take_add_one, *]; done) | grind [List.take_add_one]), hr_16⟩, by omega⟩
  · replace hc_6 := of_decide_eq_false hc_6
    refine WP_exit ?_
    refine T_x ?_
    refine T_x ?_
    refine B_x ?_
    refine T_n ?_
    refine WP_seq ?_
    refine WP_region ?_
    refine S_v E rfl (R_move E rfl) rfl ?_
    clear E a; intro a E
    refine S_v E rfl (R_assign E rfl) rfl ?_
    clear E a; intro a E
    refine WL_nil ?_
    refine T_n ?_
    refine WP_ret ?_
    have S0 := S; clear S
    obtain ⟨M_17, hM_17, hz_18, S⟩ := S0.freezeR hr5 RP2_mono (by (first | omega | (simp; done) | (simp only [List.length_take, List.length_map]; omega)))
    clear S0
    replace h0 := h0.le hM_17
    replace h1 := h1.le hM_17
    replace hv_2 := hv_2.le RP3_mono hM_17
    exact F_ret1 E Try.results69 rfl ⟨_, rfl, M_17, (hM_1.trans (hM_5.trans hM_17)), (by rw [show (zi2 (max l0.length l1.length) l0 l1) = (((zi3 (max (max l0.length l1.length) ([] : List Int).length) l0 l1 ([] : List Int)).take k).map (fun p => (p.1, p.2.1))) from by (rw [List.take_of_length_le (by omega), z3_two]; simp)]; exact hz_18), S⟩

set_option maxRecDepth 100000 in
set_option maxHeartbeats 4000000 in
theorem laws_eqRef {M : Hp} {v0 : Value} {l0 : List (Int × Int)} (h0 : RdS 2 RP2 M v0 l0) {v1 : Value} {l1 : List (Int × Int)} (h1 : RdS 2 RP2 M v1 l1) :
    Pu Try.prog (.func (.func 60) #[] #[]) M [v0, v1] (fun r M' => r = .bool (decide (l0 = l1))) := by
  refine Pu_enter Try.func60 rfl Try.ntmps60 rfl Try.call60 ?_
  intro a w M1 H hM1 S E
  replace h0 := h0.le RP2_mono hM1
  replace h1 := h1.le RP2_mono hM1
  have b0 := h0.bound
  have b1 := h1.bound
  refine WP_seq ?_
  refine WP_region ?_
  refine S_v E rfl (R_assign E rfl) rfl ?_
  clear E a; intro a E
  refine WL_nil ?_
  refine T_n ?_
  refine WP_seq ?_
  refine WP_seq ?_
  refine WP_region ?_
  refine S_v E rfl (R_move E rfl) rfl ?_
  clear E a; intro a E
  refine S_v E rfl (R_lenV E rfl T51 h0.len) rfl ?_
  clear E a; intro a E
  refine S_v E rfl (R_move E rfl) rfl ?_
  clear E a; intro a E
  refine S_v E rfl (R_lenV E rfl T61 h1.len) rfl ?_
  clear E a; intro a E
  refine S_v E rfl (R_neq E rfl rfl) rfl ?_
  clear E a; intro a E
  refine WL_nil ?_
  refine T_n ?_
  refine WP_cond E rfl (fun hc_1 => ?_) (fun hc_1 => ?_)
  · replace hc_1 := of_decide_eq_true hc_1
    refine WP_seq ?_
    refine WP_region ?_
    refine S_v E rfl (R_assign E rfl) rfl ?_
    clear E a; intro a E
    refine WL_nil ?_
    refine T_n ?_
    refine WP_ret ?_
    refine T_r ?_
    exact F_ret1 E Try.results60 rfl ⟨_, rfl, M1, (Hp.le.refl _), (bF (by (first | (simp; done) | exact eqp_no (by assumption) (by assumption) (p2_ne (by assumption)) | (have h9 : l0.take k = l1.take k := (by assumption); rwa [List.take_of_length_le (by omega), List.take_of_length_le (by omega)] at h9) | (intro h9; subst h9; omega) | (intro h9; subst h9; simp_all; done)))), S⟩
  · replace hc_1 := of_decide_eq_false hc_1
    refine WP_skip ?_
    refine T_n ?_
    refine WP_seq ?_
    refine WP_seq ?_
    refine WP_region ?_
    refine S_v E rfl (R_move E rfl) rfl ?_
    clear E a; intro a E
    refine S_v E rfl (R_lenV E rfl T51 h0.len) rfl ?_
    clear E a; intro a E
    refine S_v E rfl (R_move E rfl) rfl ?_
    clear E a; intro a E
    refine WL_nil ?_
    refine T_n ?_
    refine WP_block ?_
    refine WP_loop (γ := Nat) (fun (k : Nat) a w => ∃ (M_2 : Hp), Hp.le M1 M_2 ∧ St w M_2 (H) ∧ Env a 26 [] [(0, v0), (1, v1), (12, .int .i64 (((l0).length : Nat) : Int)), (13, .int .i64 ((k : Nat) : Int))] ∧ (k ≤ (l0).length) ∧ (l0.length = l1.length) ∧ (l0.take k = l1.take k)) (fun k => ((l0).length) - k) 0 ⟨M1, Hp.le.refl _, S, E.keep ⟨rfl, rfl, rfl, rfl, trivial⟩, by ((try clear S); (try clear E); first | assumption | omega | rfl | (simp; done) | (simp_all; done) | (simp [List.take_add_one, *]; done) | grind [List.take_add_one]), by ((try clear S); (try clear E); first | assumption | omega | rfl | (simp; done) | (simp_all; done) | (simp [List.take_add_one, *]; done) | grind [List.take_add_one]), by ((try clear S); (try clear E); first | assumption | omega | rfl | (simp; done) | (simp_all; done) | (simp [List.take_add_one, *]; done) | grind [List.take_add_one])⟩ ?_
    try clear E
    try clear S
    try clear a
    try clear w
    rintro k a w ⟨M_2, hM_2, S, E, hL0_0, hL0_1, hL0_2⟩
    replace h0 := h0.le RP2_mono hM_2
    replace h1 := h1.le RP2_mono hM_2
    refine WP_seq ?_
    refine WP_region ?_
    refine S_v E rfl (R_lss E rfl rfl) rfl ?_
    clear E a; intro a E
    refine WL_nil ?_
    refine T_n ?_
    refine WP_seq ?_
    refine WP_cond E rfl (fun hc_3 => ?_) (fun hc_3 => ?_)
    · replace hc_3 := of_decide_eq_true hc_3
      refine WP_skip ?_
      refine T_n ?_
      refine WP_seq ?_
      refine WP_block ?_
      refine WP_seq ?_
      refine WP_region ?_
      refine S_v E rfl (R_move E rfl) rfl ?_
      clear E a; intro a E
      refine S_v E rfl (R_assign E rfl) rfl ?_
      clear E a; intro a E
      refine WL_nil ?_
      refine T_n ?_
      refine WP_seq ?_
      replace S := S.mono_heap (w' := World.drew _) rfl
      refine WP_drawn (C := fun x w => agree M_2 w) (bf := (fun i => [])) [0, 1, 2, 3, 4, 5, 6, 7, 8] [0, 1, 2, 3, 4, 5, 6, 7, 8] Try.mixed (by kernel_rfl) (fun x hq => S.imm) ?_
      refine D_v E rfl rfl rfl (fun w hC => (R_move E rfl)) ?_
      clear E a; intro a E
      refine D_v E rfl rfl rfl (fun w hC => (R_move E rfl)) ?_
      clear E a; intro a E
      obtain ⟨x_4, hx_4⟩ : ∃ x, (l0)[k]? = some x := ⟨_, List.getElem?_eq_getElem (by first | omega | (simp; done) | (simp; omega) | (simp_all; omega))⟩
      obtain ⟨p_5, hp_5, qp_5⟩ := RdP2.at h0 hx_4
      refine D_v E rfl rfl rfl (fun w hC => (R_idx E rfl rfl T51 hp_5 rfl)) ?_
      clear E a; intro a E
      refine D_v E rfl rfl rfl (fun w hC => (R_loadA (cs := [.int .i64 x_4.1, .int .i64 x_4.2]) E rfl (Try.isAgg55 _) (Try.sizeOf55 _) hC qp_5)) ?_
      clear E a; intro a E
      refine D_v E rfl rfl rfl (fun w hC => (R_move E rfl)) ?_
      clear E a; intro a E
      refine D_v E rfl rfl rfl (fun w hC => (R_move E rfl)) ?_
      clear E a; intro a E
      obtain ⟨x_6, hx_6⟩ : ∃ x, (l1)[k]? = some x := ⟨_, List.getElem?_eq_getElem (by first | omega | (simp; done) | (simp; omega) | (simp_all; omega))⟩
      obtain ⟨p_7, hp_7, qp_7⟩ := RdP2.at h1 hx_6
      refine D_v E rfl rfl rfl (fun w hC => (R_idx E rfl rfl T61 hp_7 rfl)) ?_
      clear E a; intro a E
      refine D_v E rfl rfl rfl (fun w hC => (R_loadA (cs := [.int .i64 x_6.1, .int .i64 x_6.2]) E rfl (Try.isAgg71 _) (Try.sizeOf71 _) hC qp_7)) ?_
      clear E a; intro a E
      refine D_v E rfl rfl rfl (fun w hC => (R_neqA E rfl rfl (by kernel_rfl) (EQ71 x_4.1 x_4.2 x_6.1 x_6.2 _))) ?_
      clear E a; intro a E
      refine D_end (NoP_n ?_)
      refine T_n ?_
      refine WP_cond E rfl (fun hc_8 => ?_) (fun hc_8 => ?_)
      · replace hc_8 := of_decide_eq_true hc_8
        refine WP_seq ?_
        refine WP_region ?_
        refine S_v E rfl (R_assign E rfl) rfl ?_
        clear E a; intro a E
        refine WL_nil ?_
        refine T_n ?_
        refine WP_ret ?_
        refine B_r ?_
        refine T_r ?_
        refine T_r ?_
        refine B_r ?_
        refine T_r ?_
        exact F_ret1 E Try.results60 rfl ⟨_, rfl, M_2, hM_2, (bF (by (first | (simp; done) | exact eqp_no (by assumption) (by assumption) (p2_ne (by assumption)) | (have h9 : l0.take k = l1.take k := (by assumption); rwa [List.take_of_length_le (by omega), List.take_of_length_le (by omega)] at h9) | (intro h9; subst h9; omega) | (intro h9; subst h9; simp_all; done)))), S⟩
      · replace hc_8 := of_decide_eq_false hc_8
        refine WP_skip ?_
        refine B_n ?_
        refine T_n ?_
        refine WP_region ?_
        refine S_v E rfl (R_addx (m := ((k + 1 : Nat) : Int)) E rfl rfl (by omega) (by omega)) rfl ?_
        clear E a; intro a E
        refine S_v E rfl (R_move E rfl) rfl ?_
        clear E a; intro a E
        refine WL_nil ?_
        refine T_n ?_
        exact ⟨k + 1, ⟨M_2, hM_2, S, E.keep ⟨rfl, rfl, rfl, rfl, trivial⟩, by ((try clear S); (try clear E); first | assumption | omega | rfl | (simp; done) | (simp_all; done) | (simp [List.take_add_one, *]; done) | grind [List.take_add_one]), by ((try clear S); (try clear E); first | assumption | omega | rfl | (simp; done) | (simp_all; done) | (simp [List.take_add_one, *]; done) | grind [List.take_add_one]), (by exact eqp_step (by assumption) (by assumption) (by assumption) (p2_eq (by first | assumption | exact Decidable.not_not.1 (by assumption))))⟩, by omega⟩
    · replace hc_3 := of_decide_eq_false hc_3
      refine WP_exit ?_
      refine T_x ?_
      refine T_x ?_
      refine B_x ?_
      refine T_n ?_
      refine WP_seq ?_
      refine WP_region ?_
      refine S_v E rfl (R_assign E rfl) rfl ?_
      clear E a; intro a E
      refine WL_nil ?_
      refine T_n ?_
      refine WP_ret ?_
      exact F_ret1 E Try.results60 rfl ⟨_, rfl, M_2, hM_2, (bT (by (first | (simp; done) | exact eqp_no (by assumption) (by assumption) (p2_ne (by assumption)) | (have h9 : l0.take k = l1.take k := (by assumption); rwa [List.take_of_length_le (by omega), List.take_of_length_le (by omega)] at h9) | (intro h9; subst h9; omega) | (intro h9; subst h9; simp_all; done)))), S⟩

set_option maxRecDepth 100000 in
set_option maxHeartbeats 4000000 in
theorem spec_mod {M : Hp} {x0 x1 : Int} (hn : x1 ≠ 0) (g0 : -9223372036854775808 ≤ x0 ∧ x0 ≤ 9223372036854775807) (g1 : -9223372036854775808 ≤ x1 ∧ x1 ≤ 9223372036854775807) :
    Pu Try.prog (.func (.func 156) #[] #[]) M [.int .i64 x0, .int .i64 x1] (fun r M' => r = .int .i64 (x0 % x1)) := by
  refine Pu_enter Try.func156 rfl Try.ntmps156 rfl Try.call156 ?_
  intro a w M1 H hM1 S E
  refine WP_seq ?_
  refine WP_region ?_
  refine S_v E rfl (R_assign E rfl) rfl ?_
  clear E a; intro a E
  refine WL_nil ?_
  refine T_n ?_
  refine WP_seq ?_
  refine WP_region ?_
  refine S_v E rfl (R_move E rfl) rfl ?_
  clear E a; intro a E
  refine S_v E rfl (R_convm (m := x1 % 18446744073709551616) E rfl Try.underlying3 Try.underlying146 (by first | (rw [u64_wrap]; omega) | (rw [u64_wrap]; simp; omega) | rw [u64_wrap])) rfl ?_
  clear E a; intro a E
  refine S_v E rfl (R_assign E rfl) rfl ?_
  clear E a; intro a E
  refine WL_nil ?_
  refine T_n ?_
  refine WP_seq ?_
  refine WP_seq ?_
  refine WP_region ?_
  refine S_v E rfl (R_move E rfl) rfl ?_
  clear E a; intro a E
  refine S_v E rfl (R_lss E rfl rfl) rfl ?_
  clear E a; intro a E
  refine WL_nil ?_
  refine T_n ?_
  refine WP_cond E rfl (fun hc_1 => ?_) (fun hc_1 => ?_)
  · replace hc_1 := of_decide_eq_true hc_1
    refine WP_region ?_
    refine S_v E rfl (R_move E rfl) rfl ?_
    clear E a; intro a E
    refine S_v E rfl (R_negm (m := -x1) E rfl (by first | (rw [u64_wrap]; omega) | rw [u64_wrap])) rfl ?_
    clear E a; intro a E
    refine S_v E rfl (R_assign E rfl) rfl ?_
    clear E a; intro a E
    refine WL_nil ?_
    refine T_n ?_
    refine WP_seq ?_
    refine WP_seq ?_
    refine WP_region ?_
    refine S_v E rfl (R_move E rfl) rfl ?_
    clear E a; intro a E
    refine S_v E rfl (R_geq E rfl rfl) rfl ?_
    clear E a; intro a E
    refine WL_nil ?_
    refine T_n ?_
    refine WP_cond E rfl (fun hc_2 => ?_) (fun hc_2 => ?_)
    · replace hc_2 := of_decide_eq_true hc_2
      refine WP_seq ?_
      refine WP_region ?_
      refine S_v E rfl (R_move E rfl) rfl ?_
      clear E a; intro a E
      refine S_v E rfl (R_convm (m := x0) E rfl Try.underlying3 Try.underlying146 (by first | (rw [u64_wrap]; omega) | (rw [u64_wrap]; simp; omega) | rw [u64_wrap])) rfl ?_
      clear E a; intro a E
      refine S_v E rfl (R_move E rfl) rfl ?_
      clear E a; intro a E
      have hr_3 := tmod_nn (p := x0) (q := -x1) (by omega) (by omega)
      refine S_v E rfl (R_rem E rfl rfl (by first | decide | omega)) rfl ?_
      clear E a; intro a E
      refine S_v E rfl (R_convx E rfl Try.underlying146 Try.underlying3 (by omega)) rfl ?_
      clear E a; intro a E
      refine S_v E rfl (R_assign E rfl) rfl ?_
      clear E a; intro a E
      refine WL_nil ?_
      refine T_n ?_
      refine WP_ret ?_
      refine T_r ?_
      exact F_ret1 E Try.results156 rfl ⟨_, rfl, M1, (Hp.le.refl _), (congrArg (Value.int .i64) (by (clear E S; first | (have en : x1 < 0 := (by omega); have e3 : x0 % (-x1) = x0 % x1 := Int.emod_neg ..; have a1 := modA x0 (-x1) (by omega); omega) | (have e : x1 % 18446744073709551616 = x1 := (by omega); simp only [e] at *; have a1 := modA x0 x1 (by omega); omega)))), S⟩
    · replace hc_2 := of_decide_eq_false hc_2
      refine WP_skip ?_
      refine T_n ?_
      refine WP_seq ?_
      refine WP_region ?_
      refine S_v E rfl (R_move E rfl) rfl ?_
      clear E a; intro a E
      refine S_v E rfl (R_convm (m := x0 % 18446744073709551616) E rfl Try.underlying3 Try.underlying146 (by first | (rw [u64_wrap]; omega) | (rw [u64_wrap]; simp; omega) | rw [u64_wrap])) rfl ?_
      clear E a; intro a E
      refine S_v E rfl (R_negm (m := -x0) E rfl (by first | (rw [u64_wrap]; omega) | rw [u64_wrap])) rfl ?_
      clear E a; intro a E
      refine S_v E rfl (R_move E rfl) rfl ?_
      clear E a; intro a E
      have hr_4 := tmod_nn (p := -x0) (q := -x1) (by omega) (by omega)
      refine S_v E rfl (R_rem E rfl rfl (by first | decide | omega)) rfl ?_
      clear E a; intro a E
      refine S_v E rfl (R_assign E rfl) rfl ?_
      clear E a; intro a E
      refine WL_nil ?_
      refine T_n ?_
      refine WP_seq ?_
      refine WP_seq ?_
      refine WP_region ?_
      refine S_v E rfl (R_move E rfl) rfl ?_
      clear E a; intro a E
      refine S_v E rfl (R_gtr E rfl rfl) rfl ?_
      clear E a; intro a E
      refine WL_nil ?_
      refine T_n ?_
      refine WP_cond E rfl (fun hc_5 => ?_) (fun hc_5 => ?_)
      · replace hc_5 := of_decide_eq_true hc_5
        refine WP_region ?_
        refine S_v E rfl (R_move E rfl) rfl ?_
        clear E a; intro a E
        refine S_v E rfl (R_move E rfl) rfl ?_
        clear E a; intro a E
        refine S_v E rfl (R_subm (m := (-x1) - (Int.tmod (-x0) (-x1))) E rfl rfl (by first | (rw [u64_wrap]; omega) | rw [u64_wrap])) rfl ?_
        clear E a; intro a E
        refine S_v E rfl (R_assign E rfl) rfl ?_
        clear E a; intro a E
        refine WL_nil ?_
        refine T_n ?_
        refine WP_seq ?_
        refine WP_region ?_
        refine S_v E rfl (R_move E rfl) rfl ?_
        clear E a; intro a E
        refine S_v E rfl (R_convx E rfl Try.underlying146 Try.underlying3 (by omega)) rfl ?_
        clear E a; intro a E
        refine S_v E rfl (R_assign E rfl) rfl ?_
        clear E a; intro a E
        refine WL_nil ?_
        refine T_n ?_
        refine WP_ret ?_
        exact F_ret1 E Try.results156 rfl ⟨_, rfl, M1, (Hp.le.refl _), (congrArg (Value.int .i64) (by (clear E S; first | (have en : x1 < 0 := (by omega); have e3 : x0 % (-x1) = x0 % x1 := Int.emod_neg ..; have a1 := modA x0 (-x1) (by omega); omega) | (have e : x1 % 18446744073709551616 = x1 := (by omega); simp only [e] at *; have a1 := modA x0 x1 (by omega); omega)))), S⟩
      · replace hc_5 := of_decide_eq_false hc_5
        refine WP_skip ?_
        refine T_n ?_
        refine WP_seq ?_
        refine WP_region ?_
        refine S_v E rfl (R_move E rfl) rfl ?_
        clear E a; intro a E
        refine S_v E rfl (R_convx E rfl Try.underlying146 Try.underlying3 (by omega)) rfl ?_
        clear E a; intro a E
        refine S_v E rfl (R_assign E rfl) rfl ?_
        clear E a; intro a E
        refine WL_nil ?_
        refine T_n ?_
        refine WP_ret ?_
        exact F_ret1 E Try.results156 rfl ⟨_, rfl, M1, (Hp.le.refl _), (congrArg (Value.int .i64) (by (clear E S; first | (have en : x1 < 0 := (by omega); have e3 : x0 % (-x1) = x0 % x1 := Int.emod_neg ..; have a1 := modA x0 (-x1) (by omega); omega) | (have e : x1 % 18446744073709551616 = x1 := (by omega); simp only [e] at *; have a1 := modA x0 x1 (by omega); omega)))), S⟩
  · replace hc_1 := of_decide_eq_false hc_1
    refine WP_skip ?_
    refine T_n ?_
    refine WP_seq ?_
    refine WP_seq ?_
    refine WP_region ?_
    refine S_v E rfl (R_move E rfl) rfl ?_
    clear E a; intro a E
    refine S_v E rfl (R_geq E rfl rfl) rfl ?_
    clear E a; intro a E
    refine WL_nil ?_
    refine T_n ?_
    refine WP_cond E rfl (fun hc_6 => ?_) (fun hc_6 => ?_)
    · replace hc_6 := of_decide_eq_true hc_6
      refine WP_seq ?_
      refine WP_region ?_
      refine S_v E rfl (R_move E rfl) rfl ?_
      clear E a; intro a E
      refine S_v E rfl (R_convm (m := x0) E rfl Try.underlying3 Try.underlying146 (by first | (rw [u64_wrap]; omega) | (rw [u64_wrap]; simp; omega) | rw [u64_wrap])) rfl ?_
      clear E a; intro a E
      refine S_v E rfl (R_move E rfl) rfl ?_
      clear E a; intro a E
      have hr_7 := tmod_nn (p := x0) (q := x1 % 18446744073709551616) (by omega) (by omega)
      refine S_v E rfl (R_rem E rfl rfl (by first | decide | omega)) rfl ?_
      clear E a; intro a E
      refine S_v E rfl (R_convx E rfl Try.underlying146 Try.underlying3 (by omega)) rfl ?_
      clear E a; intro a E
      refine S_v E rfl (R_assign E rfl) rfl ?_
      clear E a; intro a E
      refine WL_nil ?_
      refine T_n ?_
      refine WP_ret ?_
      refine T_r ?_
      exact F_ret1 E Try.results156 rfl ⟨_, rfl, M1, (Hp.le.refl _), (congrArg (Value.int .i64) (by (clear E S; first | (have en : x1 < 0 := (by omega); have e3 : x0 % (-x1) = x0 % x1 := Int.emod_neg ..; have a1 := modA x0 (-x1) (by omega); omega) | (have e : x1 % 18446744073709551616 = x1 := (by omega); simp only [e] at *; have a1 := modA x0 x1 (by omega); omega)))), S⟩
    · replace hc_6 := of_decide_eq_false hc_6
      refine WP_skip ?_
      refine T_n ?_
      refine WP_seq ?_
      refine WP_region ?_
      refine S_v E rfl (R_move E rfl) rfl ?_
      clear E a; intro a E
      refine S_v E rfl (R_convm (m := x0 % 18446744073709551616) E rfl Try.underlying3 Try.underlying146 (by first | (rw [u64_wrap]; omega) | (rw [u64_wrap]; simp; omega) | rw [u64_wrap])) rfl ?_
      clear E a; intro a E
      refine S_v E rfl (R_negm (m := -x0) E rfl (by first | (rw [u64_wrap]; omega) | rw [u64_wrap])) rfl ?_
      clear E a; intro a E
      refine S_v E rfl (R_move E rfl) rfl ?_
      clear E a; intro a E
      have hr_8 := tmod_nn (p := -x0) (q := x1 % 18446744073709551616) (by omega) (by omega)
      refine S_v E rfl (R_rem E rfl rfl (by first | decide | omega)) rfl ?_
      clear E a; intro a E
      refine S_v E rfl (R_assign E rfl) rfl ?_
      clear E a; intro a E
      refine WL_nil ?_
      refine T_n ?_
      refine WP_seq ?_
      refine WP_seq ?_
      refine WP_region ?_
      refine S_v E rfl (R_move E rfl) rfl ?_
      clear E a; intro a E
      refine S_v E rfl (R_gtr E rfl rfl) rfl ?_
      clear E a; intro a E
      refine WL_nil ?_
      refine T_n ?_
      refine WP_cond E rfl (fun hc_9 => ?_) (fun hc_9 => ?_)
      · replace hc_9 := of_decide_eq_true hc_9
        refine WP_region ?_
        refine S_v E rfl (R_move E rfl) rfl ?_
        clear E a; intro a E
        refine S_v E rfl (R_move E rfl) rfl ?_
        clear E a; intro a E
        refine S_v E rfl (R_subm (m := (x1 % 18446744073709551616) - (Int.tmod (-x0) (x1 % 18446744073709551616))) E rfl rfl (by first | (rw [u64_wrap]; omega) | rw [u64_wrap])) rfl ?_
        clear E a; intro a E
        refine S_v E rfl (R_assign E rfl) rfl ?_
        clear E a; intro a E
        refine WL_nil ?_
        refine T_n ?_
        refine WP_seq ?_
        refine WP_region ?_
        refine S_v E rfl (R_move E rfl) rfl ?_
        clear E a; intro a E
        refine S_v E rfl (R_convx E rfl Try.underlying146 Try.underlying3 (by omega)) rfl ?_
        clear E a; intro a E
        refine S_v E rfl (R_assign E rfl) rfl ?_
        clear E a; intro a E
        refine WL_nil ?_
        refine T_n ?_
        refine WP_ret ?_
        exact F_ret1 E Try.results156 rfl ⟨_, rfl, M1, (Hp.le.refl _), (congrArg (Value.int .i64) (by (clear E S; first | (have en : x1 < 0 := (by omega); have e3 : x0 % (-x1) = x0 % x1 := Int.emod_neg ..; have a1 := modA x0 (-x1) (by omega); omega) | (have e : x1 % 18446744073709551616 = x1 := (by omega); simp only [e] at *; have a1 := modA x0 x1 (by omega); omega)))), S⟩
      · replace hc_9 := of_decide_eq_false hc_9
        refine WP_skip ?_
        refine T_n ?_
        refine WP_seq ?_
        refine WP_region ?_
        refine S_v E rfl (R_move E rfl) rfl ?_
        clear E a; intro a E
        refine S_v E rfl (R_convx E rfl Try.underlying146 Try.underlying3 (by omega)) rfl ?_
        clear E a; intro a E
        refine S_v E rfl (R_assign E rfl) rfl ?_
        clear E a; intro a E
        refine WL_nil ?_
        refine T_n ?_
        refine WP_ret ?_
        exact F_ret1 E Try.results156 rfl ⟨_, rfl, M1, (Hp.le.refl _), (congrArg (Value.int .i64) (by (clear E S; first | (have en : x1 < 0 := (by omega); have e3 : x0 % (-x1) = x0 % x1 := Int.emod_neg ..; have a1 := modA x0 (-x1) (by omega); omega) | (have e : x1 % 18446744073709551616 = x1 := (by omega); simp only [e] at *; have a1 := modA x0 x1 (by omega); omega)))), S⟩

set_option maxRecDepth 100000 in
set_option maxHeartbeats 4000000 in
theorem SKey_Of_c {M : Hp} {kk0 kn0 : Int} (gk0 : -9223372036854775808 ≤ kn0 ∧ kn0 ≤ 9223372036854775807){x1 x2 : Int} (gx : -9223372036854775808 ≤ x1 ∧ x1 ≤ 9223372036854775807) :
    PuC Try.prog 120 M [.agg #[.int .i64 kk0, .int .i64 kn0], .int .i64 x1, .int .i64 x2] (fun r M' => r = .int .i64 (keyAt kk0 kn0 x1 x2)) := by
  refine PuC_enter Try.func120 rfl Try.ntmps120 rfl ?_
  intro a w M1 H hM1 S E
  refine WP_seq ?_
  refine WP_region ?_
  refine S_x (X_box (cs := #[.int .i64 kk0, .int .i64 kn0]) E S rfl rfl rfl ?_)
  clear E a S; rintro a w b_1 E S
  obtain ⟨M_2, hM_2, hb_1, S⟩ := S.freezeB
  refine S_v E rfl (R_assign E rfl) rfl ?_
  clear E a; intro a E
  refine WL_nil ?_
  refine T_n ?_
  refine WP_seq ?_
  refine WP_seq ?_
  refine WP_region ?_
  refine S_v E rfl (R_fieldAddr E rfl (FA76_0 _)) rfl ?_
  clear E a; intro a E
  refine S_v E rfl (R_loadM E rfl Try.isAgg3 S.imm (cellM_boxo hb_1 rfl)) rfl ?_
  clear E a; intro a E
  refine WL_nil ?_
  refine T_n ?_
  refine WP_block ?_
  refine WP_seq ?_
  refine WP_region ?_
  refine S_v E rfl (R_eql E rfl rfl) rfl ?_
  clear E a; intro a E
  refine S_v E rfl (R_assign E rfl) rfl ?_
  clear E a; intro a E
  refine WL_nil ?_
  refine T_n ?_
  refine WP_cond E rfl (fun hc_3 => ?_) (fun hc_3 => ?_)
  · replace hc_3 := of_decide_eq_true hc_3
    refine WP_seq ?_
    refine WP_region ?_
    refine S_v E rfl (R_move E rfl) rfl ?_
    clear E a; intro a E
    refine S_v E rfl (R_fieldAddr E rfl (FA76_1 _)) rfl ?_
    clear E a; intro a E
    refine S_v E rfl (R_loadM E rfl Try.isAgg3 S.imm (cellM_boxo hb_1 rfl)) rfl ?_
    clear E a; intro a E
    refine S_v E rfl (R_add E rfl rfl) rfl ?_
    clear E a; intro a E
    refine S_v E rfl (R_assign E rfl) rfl ?_
    clear E a; intro a E
    refine WL_nil ?_
    refine T_n ?_
    refine WP_ret ?_
    refine B_r ?_
    refine T_r ?_
    exact F_ret1 E Try.results120 rfl ⟨_, rfl, M_2, hM_2, (congrArg (Value.int .i64) (by (clear E S; unfold keyAt w64; first | (simp [*]; done) | (simp_all; done)))), S⟩
  · replace hc_3 := of_decide_eq_false hc_3
    refine WP_seq ?_
    refine WP_region ?_
    refine S_v E rfl (R_eql E rfl rfl) rfl ?_
    clear E a; intro a E
    refine S_v E rfl (R_assign E rfl) rfl ?_
    clear E a; intro a E
    refine WL_nil ?_
    refine T_n ?_
    refine WP_cond E rfl (fun hc_4 => ?_) (fun hc_4 => ?_)
    · replace hc_4 := of_decide_eq_true hc_4
      refine WP_seq ?_
      refine WP_region ?_
      refine S_v E rfl (R_move E rfl) rfl ?_
      clear E a; intro a E
      refine S_v E rfl (R_fieldAddr E rfl (FA76_1 _)) rfl ?_
      clear E a; intro a E
      refine S_v E rfl (R_loadM E rfl Try.isAgg3 S.imm (cellM_boxo hb_1 rfl)) rfl ?_
      clear E a; intro a E
      refine S_v E rfl (R_mul E rfl rfl) rfl ?_
      clear E a; intro a E
      refine S_v E rfl (R_assign E rfl) rfl ?_
      clear E a; intro a E
      refine WL_nil ?_
      refine T_n ?_
      refine WP_ret ?_
      refine B_r ?_
      refine T_r ?_
      exact F_ret1 E Try.results120 rfl ⟨_, rfl, M_2, hM_2, (congrArg (Value.int .i64) (by (clear E S; unfold keyAt w64; first | (simp [*]; done) | (simp_all; done)))), S⟩
    · replace hc_4 := of_decide_eq_false hc_4
      refine WP_seq ?_
      refine WP_region ?_
      refine S_v E rfl (R_eql E rfl rfl) rfl ?_
      clear E a; intro a E
      refine S_v E rfl (R_assign E rfl) rfl ?_
      clear E a; intro a E
      refine WL_nil ?_
      refine T_n ?_
      refine WP_cond E rfl (fun hc_5 => ?_) (fun hc_5 => ?_)
      · replace hc_5 := of_decide_eq_true hc_5
        refine WP_seq ?_
        refine WP_region ?_
        refine S_v E rfl (R_fieldAddr E rfl (FA76_1 _)) rfl ?_
        clear E a; intro a E
        refine S_v E rfl (R_loadM E rfl Try.isAgg3 S.imm (cellM_boxo hb_1 rfl)) rfl ?_
        clear E a; intro a E
        refine S_v E rfl (R_neq E rfl rfl) rfl ?_
        clear E a; intro a E
        refine WL_nil ?_
        refine T_n ?_
        refine WP_cond E rfl (fun hc_6 => ?_) (fun hc_6 => ?_)
        · replace hc_6 := of_decide_eq_true hc_6
          refine WP_seq ?_
          refine WP_region ?_
          refine S_v E rfl (R_move E rfl) rfl ?_
          clear E a; intro a E
          refine S_v E rfl (R_fieldAddr E rfl (FA76_1 _)) rfl ?_
          clear E a; intro a E
          refine S_v E rfl (R_loadM E rfl Try.isAgg3 S.imm (cellM_boxo hb_1 rfl)) rfl ?_
          clear E a; intro a E
          refine S_x (X_pu E S rfl rfl rfl (spec_mod (by first | omega | assumption) (by omega) (by omega)) (Hp.le.refl _) ?_)
          clear E a S; rintro a _ w M_7 hM_7 rfl S E
          replace hb_1 := hM_7.2 _ _ hb_1
          refine S_v E rfl (R_assign E rfl) rfl ?_
          clear E a; intro a E
          refine WL_nil ?_
          refine T_n ?_
          refine WP_ret ?_
          refine B_r ?_
          refine T_r ?_
          exact F_ret1 E Try.results120 rfl ⟨_, rfl, M_7, (hM_2.trans hM_7), (congrArg (Value.int .i64) (by (clear E S; unfold keyAt w64; first | (simp [*]; done) | (simp_all; done)))), S⟩
        · replace hc_6 := of_decide_eq_false hc_6
          refine WP_skip ?_
          refine B_n ?_
          refine T_n ?_
          refine WP_seq ?_
          refine WP_region ?_
          refine S_v E rfl (R_move E rfl) rfl ?_
          clear E a; intro a E
          refine S_v E rfl (R_assign E rfl) rfl ?_
          clear E a; intro a E
          refine WL_nil ?_
          refine T_n ?_
          refine WP_ret ?_
          exact F_ret1 E Try.results120 rfl ⟨_, rfl, M_2, hM_2, (congrArg (Value.int .i64) (by (clear E S; unfold keyAt w64; first | (simp [*]; done) | (simp_all; done)))), S⟩
      · replace hc_5 := of_decide_eq_false hc_5
        refine WP_seq ?_
        refine WP_region ?_
        refine S_v E rfl (R_eql E rfl rfl) rfl ?_
        clear E a; intro a E
        refine S_v E rfl (R_assign E rfl) rfl ?_
        clear E a; intro a E
        refine WL_nil ?_
        refine T_n ?_
        refine WP_cond E rfl (fun hc_8 => ?_) (fun hc_8 => ?_)
        · replace hc_8 := of_decide_eq_true hc_8
          refine WP_seq ?_
          refine WP_region ?_
          refine S_v E rfl (R_fieldAddr E rfl (FA76_1 _)) rfl ?_
          clear E a; intro a E
          refine S_v E rfl (R_loadM E rfl Try.isAgg3 S.imm (cellM_boxo hb_1 rfl)) rfl ?_
          clear E a; intro a E
          refine S_v E rfl (R_assign E rfl) rfl ?_
          clear E a; intro a E
          refine WL_nil ?_
          refine T_n ?_
          refine WP_ret ?_
          refine B_r ?_
          refine T_r ?_
          exact F_ret1 E Try.results120 rfl ⟨_, rfl, M_2, hM_2, (congrArg (Value.int .i64) (by (clear E S; unfold keyAt w64; first | (simp [*]; done) | (simp_all; done)))), S⟩
        · replace hc_8 := of_decide_eq_false hc_8
          refine WP_seq ?_
          refine WP_region ?_
          refine S_v E rfl (R_eql E rfl rfl) rfl ?_
          clear E a; intro a E
          refine S_v E rfl (R_assign E rfl) rfl ?_
          clear E a; intro a E
          refine WL_nil ?_
          refine T_n ?_
          refine WP_cond E rfl (fun hc_9 => ?_) (fun hc_9 => ?_)
          · replace hc_9 := of_decide_eq_true hc_9
            refine WP_seq ?_
            refine WP_region ?_
            refine S_v E rfl (R_move E rfl) rfl ?_
            clear E a; intro a E
            refine S_v E rfl (R_assign E rfl) rfl ?_
            clear E a; intro a E
            refine WL_nil ?_
            refine T_n ?_
            refine WP_ret ?_
            refine B_r ?_
            refine T_r ?_
            exact F_ret1 E Try.results120 rfl ⟨_, rfl, M_2, hM_2, (congrArg (Value.int .i64) (by (clear E S; unfold keyAt w64; first | (simp [*]; done) | (simp_all; done)))), S⟩
          · replace hc_9 := of_decide_eq_false hc_9
            refine WP_skip ?_
            refine B_n ?_
            refine T_n ?_
            refine WP_seq ?_
            refine WP_region ?_
            refine S_v E rfl (R_move E rfl) rfl ?_
            clear E a; intro a E
            refine S_v E rfl (R_assign E rfl) rfl ?_
            clear E a; intro a E
            refine WL_nil ?_
            refine T_n ?_
            refine WP_ret ?_
            exact F_ret1 E Try.results120 rfl ⟨_, rfl, M_2, hM_2, (congrArg (Value.int .i64) (by (clear E S; unfold keyAt w64; first | (simp [*]; done) | (simp_all; done)))), S⟩
theorem SKey_Of {M : Hp} {kk0 kn0 : Int} (gk0 : -9223372036854775808 ≤ kn0 ∧ kn0 ≤ 9223372036854775807){x1 x2 : Int} (gx : -9223372036854775808 ≤ x1 ∧ x1 ≤ 9223372036854775807) :
    Pu Try.prog (.func (.func 120) #[.agg #[.int .i64 kk0, .int .i64 kn0]] #[]) M [.int .i64 x1, .int .i64 x2] (fun r M' => r = .int .i64 (keyAt kk0 kn0 x1 x2)) := PuC.pu Try.call120 rfl (SKey_Of_c gk0 gx)
theorem SKey_Of_d {M : Hp} {kk0 kn0 : Int} (gk0 : -9223372036854775808 ≤ kn0 ∧ kn0 ≤ 9223372036854775807){x1 x2 : Int} (gx : -9223372036854775808 ≤ x1 ∧ x1 ≤ 9223372036854775807) :
    Pu Try.prog (.func (.func 120) #[] #[]) M [.agg #[.int .i64 kk0, .int .i64 kn0], .int .i64 x1, .int .i64 x2] (fun r M' => r = .int .i64 (keyAt kk0 kn0 x1 x2)) := PuC.pu Try.call120 rfl (SKey_Of_c gk0 gx)

set_option maxRecDepth 100000 in
set_option maxHeartbeats 4000000 in
theorem spec_ZipBy2 {M : Hp} {v0 v1 : Value} {l0 l1 : List Int} (h0 : RdI M v0 l0) (h1 : RdI M v1 l1) {kk2 kn2 : Int} (gk2 : -9223372036854775808 ≤ kn2 ∧ kn2 ≤ 9223372036854775807) (hr0 : (∀ x ∈ l0, -9223372036854775808 ≤ x ∧ x ≤ 9223372036854775807)) (hb0 : l0.length ≤ 1000000) (hb1 : l1.length ≤ 1000000) :
    Pu Try.prog (.func (.func 70) #[] #[]) M [v0, v1, .agg #[.int .i64 kk2, .int .i64 kn2]] (fun r M' => RdI M' r ((zi2 (max l0.length l1.length) l0 l1).map (fun p => (keyAt kk2 kn2) p.1 p.2))) := by
  refine Pu_enter Try.func70 rfl Try.ntmps70 rfl Try.call70 ?_
  intro a w M1 H hM1 S E
  replace h0 := h0.le hM1
  replace h1 := h1.le hM1
  have b0 := h0.bound
  have b1 := h1.bound
  have hzl := zi2_len (max l0.length l1.length) l0 l1
  refine WP_seq ?_
  refine WP_region ?_
  refine S_x (X_box (cs := #[.int .i64 kk2, .int .i64 kn2]) E S rfl rfl rfl ?_)
  clear E a S; rintro a w b_1 E S
  obtain ⟨M_2, hM_2, hb_1, S⟩ := S.freezeB
  replace h0 := h0.le hM_2
  replace h1 := h1.le hM_2
  refine S_v E rfl (R_assign E rfl) rfl ?_
  clear E a; intro a E
  refine WL_nil ?_
  refine T_n ?_
  refine WP_seq ?_
  refine WP_region ?_
  refine S_v E rfl (R_assign E rfl) rfl ?_
  clear E a; intro a E
  refine WL_nil ?_
  refine T_n ?_
  refine WP_seq ?_
  refine WP_seq ?_
  refine WP_region ?_
  refine S_v E rfl (R_move E rfl) rfl ?_
  clear E a; intro a E
  refine S_v E rfl (R_move E rfl) rfl ?_
  clear E a; intro a E
  refine S_x (X_pu E S rfl rfl rfl (spec_Zip2 h0 h1 (by first | omega | (simp; done) | (simp; omega)) (by first | omega | (simp; done) | (simp; omega))) (Hp.le.refl _) ?_)
  clear E a S; rintro a v_4 w M_3 hM_3 hv_4 S E
  replace h0 := h0.le hM_3
  replace h1 := h1.le hM_3
  replace hb_1 := hM_3.2 _ _ hb_1
  refine S_v E rfl (R_lenV E rfl T61 hv_4.len) rfl ?_
  clear E a; intro a E
  refine S_v E rfl (R_move E rfl) rfl ?_
  clear E a; intro a E
  refine WL_nil ?_
  refine T_n ?_
  refine WP_block ?_
  replace S := (S.ownNil (e := 3) (sz := 1)).made0
  replace S := S.re1 (l' := ((zi2 (max l0.length l1.length) l0 l1).take 0).map (fun p => keyAt kk2 kn2 p.1 p.2)) (by first | (simp; done) | exact zm_step (f := keyAt kk2 kn2) (by assumption))
  refine WP_loop (γ := Nat) (fun (k : Nat) a w => ∃ (M_6 : Hp) (u7 : Value), Hp.le M_3 M_6 ∧ St w M_6 (OwnI 3 u7 (((zi2 (max l0.length l1.length) l0 l1).take k).map (fun p => keyAt kk2 kn2 p.1 p.2)) :: H) ∧ Env a 29 [] [(5, .pointer (some ⟨b_1, 0, none⟩)), (7, u7), (12, v_4), (13, .int .i64 (((zi2 (max l0.length l1.length) l0 l1).length : Nat) : Int)), (14, .int .i64 ((k : Nat) : Int))] ∧ (k ≤ (zi2 (max l0.length l1.length) l0 l1).length)) (fun k => ((zi2 (max l0.length l1.length) l0 l1).length) - k) 0 ⟨M_3, _, Hp.le.refl _, S, E.keep ⟨rfl, rfl, rfl, rfl, rfl, trivial⟩, by ((try clear S); (try clear E); first | assumption | omega | rfl | (simp; done) | (simp_all; done) | (simp [List.take_add_one, *]; done) | grind [List.take_add_one])⟩ ?_
  try clear E
  try clear S
  try clear a
  try clear w
  rintro k a w ⟨M_6, u7, hM_6, S, E, hL0_0⟩
  replace h0 := h0.le hM_6
  replace h1 := h1.le hM_6
  replace hb_1 := hM_6.2 _ _ hb_1
  replace hv_4 := hv_4.le RP2_mono hM_6
  refine WP_seq ?_
  refine WP_region ?_
  refine S_v E rfl (R_lss E rfl rfl) rfl ?_
  clear E a; intro a E
  refine WL_nil ?_
  refine T_n ?_
  refine WP_seq ?_
  refine WP_cond E rfl (fun hc_7 => ?_) (fun hc_7 => ?_)
  · replace hc_7 := of_decide_eq_true hc_7
    refine WP_skip ?_
    refine T_n ?_
    refine WP_seq ?_
    refine WP_block ?_
    refine WP_seq ?_
    refine WP_region ?_
    obtain ⟨x_8, hx_8⟩ : ∃ x, (zi2 (max l0.length l1.length) l0 l1)[k]? = some x := ⟨_, List.getElem?_eq_getElem (by first | omega | (simp; done) | (simp; omega) | (simp_all; omega))⟩
    obtain ⟨p_9, hp_9, qp_9⟩ := RdP2.at hv_4 hx_8
    refine S_v E rfl (R_idx E rfl rfl T61 hp_9 rfl) rfl ?_
    clear E a; intro a E
    refine S_v E rfl (R_loadA (cs := [.int .i64 x_8.1, .int .i64 x_8.2]) E rfl (Try.isAgg71 _) (Try.sizeOf71 _) S.imm qp_9) rfl ?_
    clear E a; intro a E
    refine S_x (X_alloc (cs := #[.int .i64 0, .int .i64 0]) E S rfl Try.zeroValue71 rfl ?_)
    clear E a S; rintro a w b_10 E S
    refine S_x0 (X_storeG (us := [.int .i64 x_8.1, .int .i64 x_8.2]) E S rfl rfl (Try.sizeOf71 _) rfl (by intro u hu; simp only [List.mem_cons, List.not_mem_nil, or_false] at hu; rcases hu with rfl | rfl <;> first | exact rfl | exact rfl) ?_)
    clear E a S; rintro a w E S
    replace S : St w M_6 (blk b_10 (.cells #[.int .i64 x_8.1, .int .i64 x_8.2] 71) :: _) := S
    have S0 := S; clear S
    obtain ⟨M_11, hM_11, hb_12, S⟩ := S0.freezeB
    clear S0
    replace h0 := h0.le hM_11
    replace h1 := h1.le hM_11
    replace hb_1 := hM_11.2 _ _ hb_1
    replace hv_4 := hv_4.le RP2_mono hM_11
    refine WL_nil ?_
    refine T_n ?_
    refine WP_region ?_
    refine S_v E rfl (R_move E rfl) rfl ?_
    clear E a; intro a E
    refine S_v E rfl (R_loadGM E rfl (Try.isAgg76 _) (Try.sizeOf76 _) S.imm hb_1) rfl ?_
    clear E a; intro a E
    refine S_v E rfl (R_fieldAddr E rfl (FA71_0 _)) rfl ?_
    clear E a; intro a E
    refine S_v E rfl (R_loadM E rfl Try.isAgg3 S.imm (cellM_boxo hb_12 rfl)) rfl ?_
    clear E a; intro a E
    refine S_v E rfl (R_fieldAddr E rfl (FA71_1 _)) rfl ?_
    clear E a; intro a E
    refine S_v E rfl (R_loadM E rfl Try.isAgg3 S.imm (cellM_boxo hb_12 rfl)) rfl ?_
    clear E a; intro a E
    refine S_x (X_pu E S rfl rfl rfl (SKey_Of_d (by omega) (by first | omega | assumption | exact hr0 _ (List.mem_of_getElem? (by assumption)) | exact zi2_rng hr0 (by assumption))) (Hp.le.refl _) ?_)
    clear E a S; rintro a _ w M_13 hM_13 rfl S E
    replace h0 := h0.le hM_13
    replace h1 := h1.le hM_13
    replace hb_1 := hM_13.2 _ _ hb_1
    replace hv_4 := hv_4.le RP2_mono hM_13
    replace hb_12 := hM_13.2 _ _ hb_12
    refine S_x (X_buildI (ys := [keyAt kk2 kn2 x_8.1 x_8.2]) E S rfl T24 rfl rfl rfl ?_)
    clear E a S; rintro a w v_14 E S
    replace S := S.front1
    replace S := S.front1
    refine S_x (X_appendB (xs := ((zi2 (max l0.length l1.length) l0 l1).take k).map (fun p => keyAt kk2 kn2 p.1 p.2)) (ys := [keyAt kk2 kn2 x_8.1 x_8.2]) E S rfl rfl rfl T24 (by (simp only [List.length_take, List.length_map, List.length_cons, List.length_nil]; omega)) ?_)
    clear E a S; rintro a w v_15 E S
    refine S_v E rfl (R_assign E rfl) rfl ?_
    clear E a; intro a E
    refine WL_nil ?_
    refine B_n ?_
    refine T_n ?_
    refine WP_region ?_
    refine S_v E rfl (R_addx (m := ((k + 1 : Nat) : Int)) E rfl rfl (by omega) (by omega)) rfl ?_
    clear E a; intro a E
    refine S_v E rfl (R_move E rfl) rfl ?_
    clear E a; intro a E
    refine WL_nil ?_
    refine T_n ?_
    replace S := S.re1 (l' := ((zi2 (max l0.length l1.length) l0 l1).take (k + 1)).map (fun p => keyAt kk2 kn2 p.1 p.2)) (by first | (simp; done) | exact zm_step (f := keyAt kk2 kn2) (by assumption))
    exact ⟨k + 1, ⟨M_13, _, (hM_6.trans (hM_11.trans hM_13)), S, E.keep ⟨rfl, rfl, rfl, rfl, rfl, trivial⟩, by ((try clear S); (try clear E); first | assumption | omega | rfl | (simp; done) | (simp_all; done) | (simp [List.take_add_one, *]; done) | grind [List.take_add_one])⟩, by omega⟩
  · replace hc_7 := of_decide_eq_false hc_7
    refine WP_exit ?_
    refine T_x ?_
    refine T_x ?_
    refine B_x ?_
    refine T_n ?_
    refine WP_seq ?_
    refine WP_region ?_
    refine S_v E rfl (R_move E rfl) rfl ?_
    clear E a; intro a E
    refine S_v E rfl (R_assign E rfl) rfl ?_
    clear E a; intro a E
    refine WL_nil ?_
    refine T_n ?_
    refine WP_ret ?_
    have S0 := S; clear S
    obtain ⟨M_16, hM_16, hz_17, S⟩ := S0.freezeI (by (first | omega | (simp; done) | (simp only [List.length_take, List.length_map]; omega)))
    clear S0
    replace h0 := h0.le hM_16
    replace h1 := h1.le hM_16
    replace hb_1 := hM_16.2 _ _ hb_1
    replace hv_4 := hv_4.le RP2_mono hM_16
    exact F_ret1 E Try.results70 rfl ⟨_, rfl, M_16, (hM_2.trans (hM_3.trans (hM_6.trans hM_16))), (by rw [show ((zi2 (max l0.length l1.length) l0 l1).map (fun p => (keyAt kk2 kn2) p.1 p.2)) = (((zi2 (max l0.length l1.length) l0 l1).take k).map (fun p => keyAt kk2 kn2 p.1 p.2)) from by (rw [List.take_of_length_le (by omega)])]; exact hz_17), S⟩

set_option maxRecDepth 100000 in
set_option maxHeartbeats 4000000 in
theorem lo_ZipBy2 {M : Hp} {v0 v1 : Value} {l0 l1 : List Int} (h0 : RdI M v0 l0) (h1 : RdI M v1 l1) {v2 : Value} {f2 : Int → Int → Int} (h2 : PF2I Try.prog v2 M f2) (hb0 : l0.length ≤ 1000000) (hb1 : l1.length ≤ 1000000) :
    Pu Try.prog (.func (.func 122) #[] #[]) M [v0, v1, v2] (fun r M' => RdI M' r ((zi2 (max l0.length l1.length) l0 l1).map (fun p => f2 p.1 p.2))) := by
  refine Pu_enter Try.func122 rfl Try.ntmps122 rfl Try.call122 ?_
  intro a w M1 H hM1 S E
  replace h0 := h0.le hM1
  replace h1 := h1.le hM1
  replace h2 := h2.le hM1
  have b0 := h0.bound
  have b1 := h1.bound
  refine WP_seq ?_
  refine WP_region ?_
  refine S_v E rfl (R_assign E rfl) rfl ?_
  clear E a; intro a E
  refine WL_nil ?_
  refine T_n ?_
  refine WP_seq ?_
  refine WP_region ?_
  refine S_v E rfl (R_move E rfl) rfl ?_
  clear E a; intro a E
  refine S_v E rfl (R_lenV E rfl T24 h0.len) rfl ?_
  clear E a; intro a E
  refine S_v E rfl (R_move E rfl) rfl ?_
  clear E a; intro a E
  refine S_v E rfl (R_lenV E rfl T24 h1.len) rfl ?_
  clear E a; intro a E
  refine S_x (X_buildI (ys := [(((l0).length : Nat) : Int), (((l1).length : Nat) : Int)]) E S rfl T24 rfl rfl rfl ?_)
  clear E a S; rintro a w v_1 E S
  have S0 := S; clear S
  obtain ⟨M_2, hM_2, hz_3, S⟩ := S0.freezeI (by (first | omega | (simp; done) | (simp; omega) | (simp [zb_len]; omega)))
  clear S0
  replace h0 := h0.le hM_2
  replace h1 := h1.le hM_2
  replace h2 := h2.le hM_2
  refine S_x (X_pu E S rfl rfl rfl (lo_Max hz_3) (Hp.le.refl _) ?_)
  clear E a S; rintro a _ w M_4 hM_4 rfl S E
  replace h0 := h0.le hM_4
  replace h1 := h1.le hM_4
  replace h2 := h2.le hM_4
  replace hz_3 := hz_3.le hM_4
  replace E := E.ival (t := 15) (c := ((max l0.length l1.length : Nat) : Int)) rfl (by (exact mx_two _ _))
  refine S_v E rfl (R_convm (m := ((max l0.length l1.length : Nat) : Int)) E rfl Try.underlying3 Try.underlying128 (by first | (rw [u64_wrap]; omega) | (rw [u64_wrap]; simp; omega) | rw [u64_wrap])) rfl ?_
  clear E a; intro a E
  refine S_v E rfl (R_assign E rfl) rfl ?_
  clear E a; intro a E
  refine WL_nil ?_
  refine T_n ?_
  refine WP_seq ?_
  refine WP_region ?_
  refine S_v E rfl (R_move E rfl) rfl ?_
  clear E a; intro a E
  refine S_x (X_makeN (k := max l0.length l1.length) E S rfl rfl rfl T24 (by omega) (by omega) (by omega) (by omega) ?_)
  clear E a S; rintro a w v_5 E S
  replace S := S.madeI
  refine S_v E rfl (R_assign E rfl) rfl ?_
  clear E a; intro a E
  refine WL_nil ?_
  refine T_n ?_
  refine WP_seq ?_
  refine WP_seq ?_
  refine WP_region ?_
  refine S_v E rfl (R_assign E rfl) rfl ?_
  clear E a; intro a E
  refine WL_nil ?_
  refine T_n ?_
  refine WP_block ?_
  replace S := S.re1 (l' := zb f2 (max l0.length l1.length) l0 l1 0) (by first | exact zb_zero _ _ _ _ | exact zb_step (by omega))
  refine WP_loop (γ := Nat) (fun (k : Nat) a w => ∃ (M_6 : Hp), Hp.le M_4 M_6 ∧ St w M_6 (OwnI 3 v_5 (zb f2 (max l0.length l1.length) l0 l1 k) :: H) ∧ Env a 36 [] [(0, v0), (1, v1), (2, v2), (7, .int .u64 ((max l0.length l1.length : Nat) : Int)), (8, v_5), (9, .int .u64 ((k : Nat) : Int))] ∧ (k ≤ max l0.length l1.length)) (fun k => max l0.length l1.length - k) 0 ⟨M_4, Hp.le.refl _, S, E.keep ⟨rfl, rfl, rfl, rfl, rfl, rfl, trivial⟩, (by omega)⟩ ?_
  try clear E
  try clear S
  try clear a
  try clear w
  rintro k a w ⟨M_6, hM_6, S, E, hL0_0⟩
  replace h0 := h0.le hM_6
  replace h1 := h1.le hM_6
  replace h2 := h2.le hM_6
  replace hz_3 := hz_3.le hM_6
  refine WP_seq ?_
  refine WP_seq ?_
  refine WP_region ?_
  refine S_v E rfl (R_move E rfl) rfl ?_
  clear E a; intro a E
  refine S_v E rfl (R_move E rfl) rfl ?_
  clear E a; intro a E
  refine S_v E rfl (R_lss E rfl rfl) rfl ?_
  clear E a; intro a E
  refine WL_nil ?_
  refine T_n ?_
  refine WP_cond E rfl (fun hc_7 => ?_) (fun hc_7 => ?_)
  · replace hc_7 := of_decide_eq_true hc_7
    refine WP_skip ?_
    refine T_n ?_
    refine WP_seq ?_
    refine WP_block ?_
    refine WP_region ?_
    refine S_v E rfl (R_move E rfl) rfl ?_
    clear E a; intro a E
    refine S_v E rfl (R_move E rfl) rfl ?_
    clear E a; intro a E
    refine S_v E rfl (R_move E rfl) rfl ?_
    clear E a; intro a E
    refine S_v E rfl (R_move E rfl) rfl ?_
    clear E a; intro a E
    refine S_v E rfl (R_move E rfl) rfl ?_
    clear E a; intro a E
    refine S_x (X_pu E S rfl rfl rfl (lo_NthOrEmptyU h0 (by first | omega | (simp; omega))) (Hp.le.refl _) ?_)
    clear E a S; rintro a _ w M_8 hM_8 rfl S E
    replace h0 := h0.le hM_8
    replace h1 := h1.le hM_8
    replace h2 := h2.le hM_8
    replace hz_3 := hz_3.le hM_8
    refine S_v E rfl (R_move E rfl) rfl ?_
    clear E a; intro a E
    refine S_v E rfl (R_move E rfl) rfl ?_
    clear E a; intro a E
    refine S_x (X_pu E S rfl rfl rfl (lo_NthOrEmptyU h1 (by first | omega | (simp; omega))) (Hp.le.refl _) ?_)
    clear E a S; rintro a _ w M_9 hM_9 rfl S E
    replace h0 := h0.le hM_9
    replace h1 := h1.le hM_9
    replace h2 := h2.le hM_9
    replace hz_3 := hz_3.le hM_9
    refine S_x (X_pu E S rfl rfl rfl (h2.2 (g0 l0 k) (g0 l1 k)) (Hp.le.refl _) ?_)
    clear E a S; rintro a _ w M_10 hM_10 rfl S E
    replace h0 := h0.le hM_10
    replace h1 := h1.le hM_10
    replace h2 := h2.le hM_10
    replace hz_3 := hz_3.le hM_10
    obtain ⟨p_11, hp_11⟩ := S.ptrC (k := k) (by first | omega | (simp [zb_len]; omega) | (simp; omega))
    refine S_v E rfl (R_idx E rfl rfl T24 hp_11 rfl) rfl ?_
    clear E a; intro a E
    refine S_x0 (X_storeI E S rfl rfl (Try.sizeOf3 _) hp_11 ?_)
    clear E a S; rintro a w E S
    refine WL_nil ?_
    refine B_n ?_
    refine T_n ?_
    refine WP_region ?_
    refine S_v E rfl (R_move E rfl) rfl ?_
    clear E a; intro a E
    refine S_v E rfl (R_add E rfl rfl) rfl ?_
    clear E a; intro a E
    refine S_v E rfl (R_assign E rfl) rfl ?_
    clear E a; intro a E
    refine WL_nil ?_
    refine T_n ?_
    replace S := S.re1 (l' := zb f2 (max l0.length l1.length) l0 l1 (k + 1)) (by first | exact zb_zero _ _ _ _ | exact zb_step (by omega))
    exact ⟨k + 1, ⟨M_10, (hM_6.trans (hM_8.trans (hM_9.trans hM_10))), S, E.keep ⟨rfl, rfl, rfl, rfl, rfl, look_int (i := (IntKind.u64).wrap (((k : Nat) : Int) + 1)) rfl (by (rw [u64_wrap]; omega)), trivial⟩, (by omega)⟩, by omega⟩
  · replace hc_7 := of_decide_eq_false hc_7
    refine WP_exit ?_
    refine T_x ?_
    refine T_x ?_
    refine B_x ?_
    refine T_n ?_
    refine WP_seq ?_
    refine WP_region ?_
    refine S_v E rfl (R_move E rfl) rfl ?_
    clear E a; intro a E
    refine S_v E rfl (R_assign E rfl) rfl ?_
    clear E a; intro a E
    refine WL_nil ?_
    refine T_n ?_
    refine WP_ret ?_
    have S0 := S; clear S
    obtain ⟨M_12, hM_12, hz_13, S⟩ := S0.freezeI (by (first | omega | (simp; done) | (simp; omega) | (simp [zb_len]; omega)))
    clear S0
    replace h0 := h0.le hM_12
    replace h1 := h1.le hM_12
    replace h2 := h2.le hM_12
    replace hz_3 := hz_3.le hM_12
    exact F_ret1 E Try.results122 rfl ⟨_, rfl, M_12, (hM_2.trans (hM_4.trans (hM_6.trans hM_12))), (by rw [show ((zi2 (max l0.length l1.length) l0 l1).map (fun p => f2 p.1 p.2)) = (zb f2 (max l0.length l1.length) l0 l1 k) from by (first | exact (zb_end (m := max l0.length l1.length) (k := k) (by omega)).symm | exact zb_end (m := max l0.length l1.length) (k := k) (by omega))]; exact hz_13), S⟩

set_option maxRecDepth 100000 in
set_option maxHeartbeats 4000000 in
theorem impl_mod {M : Hp} {x0 x1 : Int} (hn : x1 ≠ 0) (g1 : -9223372036854775808 ≤ x1 ∧ x1 ≤ 9223372036854775807) :
    Pu Try.prog (.func (.func 158) #[] #[]) M [.int .i64 x0, .int .i64 x1] (fun r M' => r = .int .i64 (x0 % x1)) := by
  refine Pu_enter Try.func158 rfl Try.ntmps158 rfl Try.call158 ?_
  intro a w M1 H hM1 S E
  have ht := tmod_emod x0 x1 hn
  refine WP_seq ?_
  refine WP_region ?_
  refine S_v E rfl (R_assign E rfl) rfl ?_
  clear E a; intro a E
  refine WL_nil ?_
  refine T_n ?_
  refine WP_seq ?_
  refine WP_region ?_
  refine S_v E rfl (R_move E rfl) rfl ?_
  clear E a; intro a E
  refine S_v E rfl (R_move E rfl) rfl ?_
  clear E a; intro a E
  refine S_v E rfl (R_rem E rfl rfl (by first | decide | omega)) rfl ?_
  clear E a; intro a E
  refine S_v E rfl (R_assign E rfl) rfl ?_
  clear E a; intro a E
  refine WL_nil ?_
  refine T_n ?_
  refine WP_seq ?_
  refine WP_seq ?_
  refine WP_region ?_
  refine S_v E rfl (R_move E rfl) rfl ?_
  clear E a; intro a E
  refine S_v E rfl (R_lss E rfl rfl) rfl ?_
  clear E a; intro a E
  refine WL_nil ?_
  refine T_n ?_
  refine WP_cond E rfl (fun hc_1 => ?_) (fun hc_1 => ?_)
  · replace hc_1 := of_decide_eq_true hc_1
    refine WP_seq ?_
    refine WP_seq ?_
    refine WP_region ?_
    refine S_v E rfl (R_move E rfl) rfl ?_
    clear E a; intro a E
    refine S_v E rfl (R_lss E rfl rfl) rfl ?_
    clear E a; intro a E
    refine WL_nil ?_
    refine T_n ?_
    refine WP_cond E rfl (fun hc_2 => ?_) (fun hc_2 => ?_)
    · replace hc_2 := of_decide_eq_true hc_2
      refine WP_seq ?_
      refine WP_region ?_
      refine S_v E rfl (R_move E rfl) rfl ?_
      clear E a; intro a E
      refine S_v E rfl (R_move E rfl) rfl ?_
      clear E a; intro a E
      refine S_v E rfl (R_subx (m := (Int.tmod x0 x1) - x1) E rfl rfl (by omega) (by omega)) rfl ?_
      clear E a; intro a E
      refine S_v E rfl (R_assign E rfl) rfl ?_
      clear E a; intro a E
      refine WL_nil ?_
      refine T_n ?_
      refine WP_ret ?_
      refine T_r ?_
      refine T_r ?_
      exact F_ret1 E Try.results158 rfl ⟨_, rfl, M1, (Hp.le.refl _), (congrArg (Value.int .i64) (by omega)), S⟩
    · replace hc_2 := of_decide_eq_false hc_2
      refine WP_skip ?_
      refine T_n ?_
      refine WP_seq ?_
      refine WP_region ?_
      refine S_v E rfl (R_move E rfl) rfl ?_
      clear E a; intro a E
      refine S_v E rfl (R_move E rfl) rfl ?_
      clear E a; intro a E
      refine S_v E rfl (R_addx (m := (Int.tmod x0 x1) + x1) E rfl rfl (by omega) (by omega)) rfl ?_
      clear E a; intro a E
      refine S_v E rfl (R_assign E rfl) rfl ?_
      clear E a; intro a E
      refine WL_nil ?_
      refine T_n ?_
      refine WP_ret ?_
      refine T_r ?_
      exact F_ret1 E Try.results158 rfl ⟨_, rfl, M1, (Hp.le.refl _), (congrArg (Value.int .i64) (by omega)), S⟩
  · replace hc_1 := of_decide_eq_false hc_1
    refine WP_skip ?_
    refine T_n ?_
    refine WP_seq ?_
    refine WP_region ?_
    refine S_v E rfl (R_move E rfl) rfl ?_
    clear E a; intro a E
    refine S_v E rfl (R_assign E rfl) rfl ?_
    clear E a; intro a E
    refine WL_nil ?_
    refine T_n ?_
    refine WP_ret ?_
    exact F_ret1 E Try.results158 rfl ⟨_, rfl, M1, (Hp.le.refl _), (congrArg (Value.int .i64) (by omega)), S⟩

set_option maxRecDepth 100000 in
set_option maxHeartbeats 4000000 in
theorem Key_at_c {M : Hp} {kk0 kn0 : Int} (gk0 : -9223372036854775808 ≤ kn0 ∧ kn0 ≤ 9223372036854775807){x1 x2 : Int} :
    PuC Try.prog 123 M [.agg #[.int .i64 kk0, .int .i64 kn0], .int .i64 x1, .int .i64 x2] (fun r M' => r = .int .i64 (keyAt kk0 kn0 x1 x2)) := by
  refine PuC_enter Try.func123 rfl Try.ntmps123 rfl ?_
  intro a w M1 H hM1 S E
  refine WP_seq ?_
  refine WP_region ?_
  refine S_x (X_box (cs := #[.int .i64 kk0, .int .i64 kn0]) E S rfl rfl rfl ?_)
  clear E a S; rintro a w b_1 E S
  obtain ⟨M_2, hM_2, hb_1, S⟩ := S.freezeB
  refine S_v E rfl (R_assign E rfl) rfl ?_
  clear E a; intro a E
  refine WL_nil ?_
  refine T_n ?_
  refine WP_seq ?_
  refine WP_seq ?_
  refine WP_region ?_
  refine S_v E rfl (R_fieldAddr E rfl (FA31_0 _)) rfl ?_
  clear E a; intro a E
  refine S_v E rfl (R_loadM E rfl Try.isAgg3 S.imm (cellM_boxo hb_1 rfl)) rfl ?_
  clear E a; intro a E
  refine WL_nil ?_
  refine T_n ?_
  refine WP_block ?_
  refine WP_seq ?_
  refine WP_region ?_
  refine S_v E rfl (R_eql E rfl rfl) rfl ?_
  clear E a; intro a E
  refine S_v E rfl (R_assign E rfl) rfl ?_
  clear E a; intro a E
  refine WL_nil ?_
  refine T_n ?_
  refine WP_cond E rfl (fun hc_3 => ?_) (fun hc_3 => ?_)
  · replace hc_3 := of_decide_eq_true hc_3
    refine WP_seq ?_
    refine WP_region ?_
    refine S_v E rfl (R_move E rfl) rfl ?_
    clear E a; intro a E
    refine S_v E rfl (R_fieldAddr E rfl (FA31_1 _)) rfl ?_
    clear E a; intro a E
    refine S_v E rfl (R_loadM E rfl Try.isAgg3 S.imm (cellM_boxo hb_1 rfl)) rfl ?_
    clear E a; intro a E
    refine S_v E rfl (R_add E rfl rfl) rfl ?_
    clear E a; intro a E
    refine S_v E rfl (R_assign E rfl) rfl ?_
    clear E a; intro a E
    refine WL_nil ?_
    refine T_n ?_
    refine WP_ret ?_
    refine B_r ?_
    refine T_r ?_
    exact F_ret1 E Try.results123 rfl ⟨_, rfl, M_2, hM_2, (congrArg (Value.int .i64) (by (clear E S; unfold keyAt w64; first | (simp [*]; done) | (simp_all; done)))), S⟩
  · replace hc_3 := of_decide_eq_false hc_3
    refine WP_seq ?_
    refine WP_region ?_
    refine S_v E rfl (R_eql E rfl rfl) rfl ?_
    clear E a; intro a E
    refine S_v E rfl (R_assign E rfl) rfl ?_
    clear E a; intro a E
    refine WL_nil ?_
    refine T_n ?_
    refine WP_cond E rfl (fun hc_4 => ?_) (fun hc_4 => ?_)
    · replace hc_4 := of_decide_eq_true hc_4
      refine WP_seq ?_
      refine WP_region ?_
      refine S_v E rfl (R_move E rfl) rfl ?_
      clear E a; intro a E
      refine S_v E rfl (R_fieldAddr E rfl (FA31_1 _)) rfl ?_
      clear E a; intro a E
      refine S_v E rfl (R_loadM E rfl Try.isAgg3 S.imm (cellM_boxo hb_1 rfl)) rfl ?_
      clear E a; intro a E
      refine S_v E rfl (R_mul E rfl rfl) rfl ?_
      clear E a; intro a E
      refine S_v E rfl (R_assign E rfl) rfl ?_
      clear E a; intro a E
      refine WL_nil ?_
      refine T_n ?_
      refine WP_ret ?_
      refine B_r ?_
      refine T_r ?_
      exact F_ret1 E Try.results123 rfl ⟨_, rfl, M_2, hM_2, (congrArg (Value.int .i64) (by (clear E S; unfold keyAt w64; first | (simp [*]; done) | (simp_all; done)))), S⟩
    · replace hc_4 := of_decide_eq_false hc_4
      refine WP_seq ?_
      refine WP_region ?_
      refine S_v E rfl (R_eql E rfl rfl) rfl ?_
      clear E a; intro a E
      refine S_v E rfl (R_assign E rfl) rfl ?_
      clear E a; intro a E
      refine WL_nil ?_
      refine T_n ?_
      refine WP_cond E rfl (fun hc_5 => ?_) (fun hc_5 => ?_)
      · replace hc_5 := of_decide_eq_true hc_5
        refine WP_seq ?_
        refine WP_region ?_
        refine S_v E rfl (R_fieldAddr E rfl (FA31_1 _)) rfl ?_
        clear E a; intro a E
        refine S_v E rfl (R_loadM E rfl Try.isAgg3 S.imm (cellM_boxo hb_1 rfl)) rfl ?_
        clear E a; intro a E
        refine S_v E rfl (R_neq E rfl rfl) rfl ?_
        clear E a; intro a E
        refine WL_nil ?_
        refine T_n ?_
        refine WP_cond E rfl (fun hc_6 => ?_) (fun hc_6 => ?_)
        · replace hc_6 := of_decide_eq_true hc_6
          refine WP_seq ?_
          refine WP_region ?_
          refine S_v E rfl (R_move E rfl) rfl ?_
          clear E a; intro a E
          refine S_v E rfl (R_fieldAddr E rfl (FA31_1 _)) rfl ?_
          clear E a; intro a E
          refine S_v E rfl (R_loadM E rfl Try.isAgg3 S.imm (cellM_boxo hb_1 rfl)) rfl ?_
          clear E a; intro a E
          refine S_x (X_pu E S rfl rfl rfl (impl_mod (by first | omega | assumption) (by omega)) (Hp.le.refl _) ?_)
          clear E a S; rintro a _ w M_7 hM_7 rfl S E
          replace hb_1 := hM_7.2 _ _ hb_1
          refine S_v E rfl (R_assign E rfl) rfl ?_
          clear E a; intro a E
          refine WL_nil ?_
          refine T_n ?_
          refine WP_ret ?_
          refine B_r ?_
          refine T_r ?_
          exact F_ret1 E Try.results123 rfl ⟨_, rfl, M_7, (hM_2.trans hM_7), (congrArg (Value.int .i64) (by (clear E S; unfold keyAt w64; first | (simp [*]; done) | (simp_all; done)))), S⟩
        · replace hc_6 := of_decide_eq_false hc_6
          refine WP_skip ?_
          refine B_n ?_
          refine T_n ?_
          refine WP_seq ?_
          refine WP_region ?_
          refine S_v E rfl (R_move E rfl) rfl ?_
          clear E a; intro a E
          refine S_v E rfl (R_assign E rfl) rfl ?_
          clear E a; intro a E
          refine WL_nil ?_
          refine T_n ?_
          refine WP_ret ?_
          exact F_ret1 E Try.results123 rfl ⟨_, rfl, M_2, hM_2, (congrArg (Value.int .i64) (by (clear E S; unfold keyAt w64; first | (simp [*]; done) | (simp_all; done)))), S⟩
      · replace hc_5 := of_decide_eq_false hc_5
        refine WP_seq ?_
        refine WP_region ?_
        refine S_v E rfl (R_eql E rfl rfl) rfl ?_
        clear E a; intro a E
        refine S_v E rfl (R_assign E rfl) rfl ?_
        clear E a; intro a E
        refine WL_nil ?_
        refine T_n ?_
        refine WP_cond E rfl (fun hc_8 => ?_) (fun hc_8 => ?_)
        · replace hc_8 := of_decide_eq_true hc_8
          refine WP_seq ?_
          refine WP_region ?_
          refine S_v E rfl (R_fieldAddr E rfl (FA31_1 _)) rfl ?_
          clear E a; intro a E
          refine S_v E rfl (R_loadM E rfl Try.isAgg3 S.imm (cellM_boxo hb_1 rfl)) rfl ?_
          clear E a; intro a E
          refine S_v E rfl (R_assign E rfl) rfl ?_
          clear E a; intro a E
          refine WL_nil ?_
          refine T_n ?_
          refine WP_ret ?_
          refine B_r ?_
          refine T_r ?_
          exact F_ret1 E Try.results123 rfl ⟨_, rfl, M_2, hM_2, (congrArg (Value.int .i64) (by (clear E S; unfold keyAt w64; first | (simp [*]; done) | (simp_all; done)))), S⟩
        · replace hc_8 := of_decide_eq_false hc_8
          refine WP_seq ?_
          refine WP_region ?_
          refine S_v E rfl (R_eql E rfl rfl) rfl ?_
          clear E a; intro a E
          refine S_v E rfl (R_assign E rfl) rfl ?_
          clear E a; intro a E
          refine WL_nil ?_
          refine T_n ?_
          refine WP_cond E rfl (fun hc_9 => ?_) (fun hc_9 => ?_)
          · replace hc_9 := of_decide_eq_true hc_9
            refine WP_seq ?_
            refine WP_region ?_
            refine S_v E rfl (R_move E rfl) rfl ?_
            clear E a; intro a E
            refine S_v E rfl (R_assign E rfl) rfl ?_
            clear E a; intro a E
            refine WL_nil ?_
            refine T_n ?_
            refine WP_ret ?_
            refine B_r ?_
            refine T_r ?_
            exact F_ret1 E Try.results123 rfl ⟨_, rfl, M_2, hM_2, (congrArg (Value.int .i64) (by (clear E S; unfold keyAt w64; first | (simp [*]; done) | (simp_all; done)))), S⟩
          · replace hc_9 := of_decide_eq_false hc_9
            refine WP_skip ?_
            refine B_n ?_
            refine T_n ?_
            refine WP_seq ?_
            refine WP_region ?_
            refine S_v E rfl (R_move E rfl) rfl ?_
            clear E a; intro a E
            refine S_v E rfl (R_assign E rfl) rfl ?_
            clear E a; intro a E
            refine WL_nil ?_
            refine T_n ?_
            refine WP_ret ?_
            exact F_ret1 E Try.results123 rfl ⟨_, rfl, M_2, hM_2, (congrArg (Value.int .i64) (by (clear E S; unfold keyAt w64; first | (simp [*]; done) | (simp_all; done)))), S⟩
theorem Key_at {M : Hp} {kk0 kn0 : Int} (gk0 : -9223372036854775808 ≤ kn0 ∧ kn0 ≤ 9223372036854775807){x1 x2 : Int} :
    Pu Try.prog (.func (.func 123) #[.agg #[.int .i64 kk0, .int .i64 kn0]] #[]) M [.int .i64 x1, .int .i64 x2] (fun r M' => r = .int .i64 (keyAt kk0 kn0 x1 x2)) := PuC.pu Try.call123 rfl (Key_at_c gk0)
theorem Key_at_d {M : Hp} {kk0 kn0 : Int} (gk0 : -9223372036854775808 ≤ kn0 ∧ kn0 ≤ 9223372036854775807){x1 x2 : Int} :
    Pu Try.prog (.func (.func 123) #[] #[]) M [.agg #[.int .i64 kk0, .int .i64 kn0], .int .i64 x1, .int .i64 x2] (fun r M' => r = .int .i64 (keyAt kk0 kn0 x1 x2)) := PuC.pu Try.call123 rfl (Key_at_c gk0)

set_option maxRecDepth 100000 in
set_option maxHeartbeats 4000000 in
theorem impl_ZipBy2 {M : Hp} {v0 v1 : Value} {l0 l1 : List Int} (h0 : RdI M v0 l0) (h1 : RdI M v1 l1) {kk2 kn2 : Int} (gk2 : -9223372036854775808 ≤ kn2 ∧ kn2 ≤ 9223372036854775807) (hb0 : l0.length ≤ 1000000) (hb1 : l1.length ≤ 1000000) :
    Pu Try.prog (.func (.func 72) #[] #[]) M [v0, v1, .agg #[.int .i64 kk2, .int .i64 kn2]] (fun r M' => RdI M' r ((zi2 (max l0.length l1.length) l0 l1).map (fun p => (keyAt kk2 kn2) p.1 p.2))) := by
  refine Pu_enter Try.func72 rfl Try.ntmps72 rfl Try.call72 ?_
  intro a w M1 H hM1 S E
  replace h0 := h0.le hM1
  replace h1 := h1.le hM1
  have b0 := h0.bound
  have b1 := h1.bound
  refine WP_seq ?_
  refine WP_region ?_
  refine S_x (X_box (cs := #[.int .i64 kk2, .int .i64 kn2]) E S rfl rfl rfl ?_)
  clear E a S; rintro a w b_1 E S
  obtain ⟨M_2, hM_2, hb_1, S⟩ := S.freezeB
  replace h0 := h0.le hM_2
  replace h1 := h1.le hM_2
  refine S_v E rfl (R_assign E rfl) rfl ?_
  clear E a; intro a E
  refine WL_nil ?_
  refine T_n ?_
  refine WP_seq ?_
  refine WP_region ?_
  refine S_v E rfl (R_move E rfl) rfl ?_
  clear E a; intro a E
  refine S_v E rfl (R_move E rfl) rfl ?_
  clear E a; intro a E
  refine S_v E rfl (R_loadGM E rfl (Try.isAgg31 _) (Try.sizeOf31 _) S.imm hb_1) rfl ?_
  clear E a; intro a E
  refine S_v E rfl (R_makeFunc E rfl rfl) rfl ?_
  clear E a; intro a E
  refine S_x (X_pu E S rfl rfl rfl (lo_ZipBy2 h0 h1 ⟨rfl, fun zx1 zx2 => Key_at (x1 := zx1) (x2 := zx2) (by omega)⟩ (by first | omega | (simp; done) | (simp; omega)) (by first | omega | (simp; done) | (simp; omega))) (Hp.le.refl _) ?_)
  clear E a S; rintro a v_4 w M_3 hM_3 hv_4 S E
  replace h0 := h0.le hM_3
  replace h1 := h1.le hM_3
  replace hb_1 := hM_3.2 _ _ hb_1
  refine S_v E rfl (R_assign E rfl) rfl ?_
  clear E a; intro a E
  refine WL_nil ?_
  refine T_n ?_
  refine WP_ret ?_
  exact F_ret1 E Try.results72 rfl ⟨_, rfl, M_3, (hM_2.trans hM_3), hv_4, S⟩

end Go.Proofs.Ytbdacnblipmapaa.wFnZipped
