/- Walks through the functions that laws.FnAssigned reaches: what each computes; no conditions beyond what each theorem states. -/
import Derived.Test.YtahbobhbookehaaWFnAssignedb
set_option linter.unusedVariables false
set_option linter.unusedSimpArgs false
namespace Go.Proofs.Ytahbobhbookehaa.wFnAssigned
open Go Go.Sl
set_option maxRecDepth 100000 in
set_option maxHeartbeats 4000000 in
theorem impl_mapOf {M : Hp} {v0 : Value} {l0 : List (Int × Int)} (h0 : RdS 2 RP2 M v0 l0) :
    Pu Try.prog (.func (.func 131) #[] #[]) M [v0] (fun r M' => RdM M' r (encE (Value.int .i64) (mkE l0))) := by
  refine Pu_enter Try.func131 rfl Try.ntmps131 rfl Try.call131 ?_
  intro a w M1 H hM1 S E
  replace h0 := h0.le RP2_mono hM1
  have b0 := h0.bound
  refine WP_seq ?_
  refine WP_region ?_
  refine S_v E rfl (R_assign E rfl) rfl ?_
  clear E a; intro a E
  refine WL_nil ?_
  refine T_n ?_
  refine WP_seq ?_
  refine WP_region ?_
  refine S_x (X_makeMap E S rfl ?_)
  clear E a S; rintro a w b_1 E S
  replace S : St w M1 (OwnE (Value.int .i64) b_1 ([] : List (Int × Int)) :: _) := S
  refine S_v E rfl (R_assign E rfl) rfl ?_
  clear E a; intro a E
  refine WL_nil ?_
  refine T_n ?_
  refine WP_seq ?_
  refine WP_seq ?_
  refine WP_region ?_
  refine S_v E rfl (R_move E rfl) rfl ?_
  clear E a; intro a E
  refine S_v E rfl (R_lenV E rfl T33 h0.len) rfl ?_
  clear E a; intro a E
  refine S_v E rfl (R_move E rfl) rfl ?_
  clear E a; intro a E
  refine WL_nil ?_
  refine T_n ?_
  refine WP_block ?_
  replace S := S.reM (L' := (encE (Value.int .i64) (mkE (l0.take 0)))) (congrArg (encE (Value.int .i64)) (show ([] : List (Int × Int)) = mkE (l0.take 0) by first | rfl | (simp [mkE]; done) | (rw [tk_snoc (by assumption), mkE_app]; done)))
  refine WP_loop (γ := Nat) (fun (k : Nat) a w => ∃ (M_2 : Hp), Hp.le M1 M_2 ∧ St w M_2 (OwnE (Value.int .i64) b_1 (mkE (l0.take k)) :: H) ∧ Env a 20 [] [(3, .map (some b_1)), (7, v0), (8, .int .i64 (((l0).length : Nat) : Int)), (9, .int .i64 ((k : Nat) : Int))] ∧ (k ≤ (l0).length)) (fun k => ((l0).length) - k) 0 ⟨M1, Hp.le.refl _, S, E.keep ⟨rfl, rfl, rfl, rfl, trivial⟩, by ((try clear S); (try clear E); first | assumption | omega | rfl | (simp; done) | (simp_all; done) | (simp [List.take_add_one, *]; done) | grind [List.take_add_one])⟩ ?_
  try clear E
  try clear S
  try clear a
  try clear w
  rintro k a w ⟨M_2, hM_2, S, E, hL0_0⟩
  replace h0 := h0.le RP2_mono hM_2
  refine WP_seq ?_
  refine WP_region ?_
  refine S_v E rfl (R_lss E rfl rfl) rfl ?_
  clear E a; intro a E
  refine WL_nil ?_
  refine T_n ?_
  refine WP_seq ?_
  refine WP_cond E rfl (fun hc_3 => ?_) (fun hc_3 => ?_)
  · replace hc_3 := of_decide_eq_true hc_3
    refine WP_skip ?_
    refine T_n ?_
    refine WP_seq ?_
    refine WP_block ?_
    refine WP_seq ?_
    refine WP_region ?_
    obtain ⟨x_4, hx_4⟩ : ∃ x, (l0)[k]? = some x := ⟨_, List.getElem?_eq_getElem (by first | omega | (simp; done) | (simp; omega) | (simp_all; omega))⟩
    obtain ⟨p_5, hp_5, qp_5⟩ := RdP2.at h0 hx_4
    refine S_v E rfl (R_idx E rfl rfl T33 hp_5 rfl) rfl ?_
    clear E a; intro a E
    refine S_v E rfl (R_loadA (cs := [.int .i64 x_4.1, .int .i64 x_4.2]) E rfl (Try.isAgg59 _) (Try.sizeOf59 _) S.imm qp_5) rfl ?_
    clear E a; intro a E
    refine S_x (X_alloc (cs := #[.int .i64 0, .int .i64 0]) E S rfl Try.zeroValue59 rfl ?_)
    clear E a S; rintro a w b_6 E S
    refine S_x0 (X_storeG (us := [.int .i64 x_4.1, .int .i64 x_4.2]) E S rfl rfl (Try.sizeOf59 _) rfl (by intro u hu; simp only [List.mem_cons, List.not_mem_nil, or_false] at hu; rcases hu with rfl | rfl <;> first | exact rfl | exact rfl) ?_)
    clear E a S; rintro a w E S
    replace S : St w M_2 (blk b_6 (.cells #[.int .i64 x_4.1, .int .i64 x_4.2] 59) :: _) := S
    have S0 := S; clear S
    obtain ⟨M_7, hM_7, hb_8, S⟩ := S0.freezeB
    clear S0
    replace h0 := h0.le RP2_mono hM_7
    refine WL_nil ?_
    refine T_n ?_
    refine WP_region ?_
    refine S_v E rfl (R_move E rfl) rfl ?_
    clear E a; intro a E
    refine S_v E rfl (R_fieldAddr E rfl (FA59_0 _)) rfl ?_
    clear E a; intro a E
    refine S_v E rfl (R_loadM E rfl Try.isAgg3 S.imm (cellM_boxo hb_8 rfl)) rfl ?_
    clear E a; intro a E
    refine S_v E rfl (R_fieldAddr E rfl (FA59_1 _)) rfl ?_
    clear E a; intro a E
    refine S_v E rfl (R_loadM E rfl Try.isAgg3 S.imm (cellM_boxo hb_8 rfl)) rfl ?_
    clear E a; intro a E
    refine S_x0 (X_updateE (vf := (Value.int .i64)) (u := x_4.2) E S MT103 rfl rfl rfl ?_)
    clear E a S; rintro a w E S
    refine WL_nil ?_
    refine B_n ?_
    refine T_n ?_
    refine WP_region ?_
    refine S_v E rfl (R_addx (m := ((k + 1 : Nat) : Int)) E rfl rfl (by omega) (by omega)) rfl ?_
    clear E a; intro a E
    refine S_v E rfl (R_move E rfl) rfl ?_
    clear E a; intro a E
    refine WL_nil ?_
    refine T_n ?_
    replace S := S.reM (L' := (encE (Value.int .i64) (mkE (l0.take (k + 1))))) (congrArg (encE (Value.int .i64)) (show putK (mkE (l0.take k)) x_4.1 x_4.2 = mkE (l0.take (k + 1)) by first | rfl | (simp [mkE]; done) | (rw [tk_snoc (by assumption), mkE_app]; done)))
    exact ⟨k + 1, ⟨M_7, (hM_2.trans hM_7), S, E.keep ⟨rfl, rfl, rfl, rfl, trivial⟩, by ((try clear S); (try clear E); first | assumption | omega | rfl | (simp; done) | (simp_all; done) | (simp [List.take_add_one, *]; done) | grind [List.take_add_one])⟩, by omega⟩
  · replace hc_3 := of_decide_eq_false hc_3
    refine WP_exit ?_
    refine T_x ?_
    refine T_x ?_
    refine B_x ?_
    refine T_n ?_
    refine WP_seq ?_
    refine WP_region ?_
    refine S_v E rfl (R_move E rfl) rfl ?_
    clear E a; intro a E
    refine S_v E rfl (R_assign E rfl) rfl ?_
    clear E a; intro a E
    refine WL_nil ?_
    refine T_n ?_
    refine WP_ret ?_
    have S0 := S; clear S
    obtain ⟨M_9, hM_9, hm_10, S⟩ := S0.freezeM
    clear S0
    replace h0 := h0.le RP2_mono hM_9
    exact F_ret1 E Try.results131 rfl ⟨_, rfl, M_9, (hM_2.trans hM_9), (by rw [show (mkE l0) = (mkE (l0.take k)) from by (rw [List.take_of_length_le (by omega)])]; exact hm_10), S⟩

set_option maxRecDepth 100000 in
set_option maxHeartbeats 4000000 in
theorem lo_Assign {M : Hp} {v0 : Value} {l0 : List (List (Int × Int))} (h0 : RdS 1 RMp M v0 l0) (hb : l0.flatten.length ≤ 1000000000000) :
    Pu Try.prog (.func (.func 132) #[] #[]) M [v0] (fun r M' => ∃ q_, RdM M' r (encE (Value.int .i64) q_) ∧ lkE q_ = lkE ((l0).flatten)) := by
  refine Pu_enter Try.func132 rfl Try.ntmps132 rfl Try.call132 ?_
  intro a w M1 H hM1 S E
  replace h0 := h0.le RMp_mono hM1
  have b0 := h0.bound
  refine WP_seq ?_
  refine WP_region ?_
  refine S_v E rfl (R_assign E rfl) rfl ?_
  clear E a; intro a E
  refine WL_nil ?_
  refine T_n ?_
  refine WP_seq ?_
  refine WP_region ?_
  refine S_v E rfl (R_assign E rfl) rfl ?_
  clear E a; intro a E
  refine WL_nil ?_
  refine T_n ?_
  refine WP_seq ?_
  refine WP_seq ?_
  refine WP_region ?_
  refine S_v E rfl (R_move E rfl) rfl ?_
  clear E a; intro a E
  refine S_v E rfl (R_lenV E rfl T126 h0.len) rfl ?_
  clear E a; intro a E
  refine S_v E rfl (R_move E rfl) rfl ?_
  clear E a; intro a E
  refine WL_nil ?_
  refine T_n ?_
  refine WP_block ?_
  refine WP_loop (γ := Nat) (fun (k : Nat) a w => ∃ (M_1 : Hp), Hp.le M1 M_1 ∧ St w M_1 (H) ∧ Env a 44 [] [(0, v0), (3, .int .i64 ((((l0.take k).flatten).length : Nat) : Int)), (10, .int .i64 (((l0).length : Nat) : Int)), (11, .int .i64 ((k : Nat) : Int))] ∧ (k ≤ (l0).length)) (fun k => ((l0).length) - k) 0 ⟨M1, Hp.le.refl _, S, E.keep ⟨rfl, look_nat (i := 0) rfl (by (simp)), rfl, rfl, trivial⟩, by ((try clear S); (try clear E); first | assumption | omega | rfl | (simp; done) | (simp_all; done) | (simp [List.take_add_one, *]; done) | grind [List.take_add_one])⟩ ?_
  try clear E
  try clear S
  try clear a
  try clear w
  rintro k a w ⟨M_1, hM_1, S, E, hL0_0⟩
  replace h0 := h0.le RMp_mono hM_1
  have hfl := fl_le l0 k
  refine WP_seq ?_
  refine WP_region ?_
  refine S_v E rfl (R_lss E rfl rfl) rfl ?_
  clear E a; intro a E
  refine WL_nil ?_
  refine T_n ?_
  refine WP_seq ?_
  refine WP_cond E rfl (fun hc_2 => ?_) (fun hc_2 => ?_)
  · replace hc_2 := of_decide_eq_true hc_2
    refine WP_skip ?_
    refine T_n ?_
    refine WP_seq ?_
    refine WP_block ?_
    refine WP_seq ?_
    refine WP_region ?_
    refine S_v E rfl (R_move E rfl) rfl ?_
    clear E a; intro a E
    refine S_v E rfl (R_assign E rfl) rfl ?_
    clear E a; intro a E
    refine WL_nil ?_
    refine T_n ?_
    refine WP_region ?_
    refine S_v E rfl (R_move E rfl) rfl ?_
    clear E a; intro a E
    refine S_v E rfl (R_move E rfl) rfl ?_
    clear E a; intro a E
    refine S_v E rfl (R_move E rfl) rfl ?_
    clear E a; intro a E
    obtain ⟨x_3, hx_3⟩ : ∃ x, (l0)[k]? = some x := ⟨_, List.getElem?_eq_getElem (by first | omega | (simp; done) | (simp; omega) | (simp_all; omega))⟩
    obtain ⟨p_4, u_5, hp_4, qp_4, hu_5⟩ := RdMp.at h0 hx_3
    refine S_v E rfl (R_idx E rfl rfl T126 hp_4 rfl) rfl ?_
    clear E a; intro a E
    refine S_v E rfl (R_loadM E rfl Try.isAgg103 S.imm qp_4) rfl ?_
    clear E a; intro a E
    refine S_v E rfl ((R_lenF S.imm hu_5 E MT103 rfl).trans (by rw [encE_len])) rfl ?_
    clear E a; intro a E
    refine S_v E rfl (R_addx (m := ((((l0.take k).flatten).length + (x_3).length : Nat) : Int)) E rfl rfl (by (have h9 := fl_lt (by assumption); omega)) (by (have h9 := fl_lt (by assumption); omega))) rfl ?_
    clear E a; intro a E
    refine S_v E rfl (R_assign E rfl) rfl ?_
    clear E a; intro a E
    refine WL_nil ?_
    refine B_n ?_
    refine T_n ?_
    refine WP_region ?_
    refine S_v E rfl (R_addx (m := ((k + 1 : Nat) : Int)) E rfl rfl (by (have h9 := fl_lt (by assumption); omega)) (by (have h9 := fl_lt (by assumption); omega))) rfl ?_
    clear E a; intro a E
    refine S_v E rfl (R_move E rfl) rfl ?_
    clear E a; intro a E
    refine WL_nil ?_
    refine T_n ?_
    exact ⟨k + 1, ⟨M_1, hM_1, S, E.keep ⟨rfl, look_nat (i := ((l0.take k).flatten).length + (x_3).length) rfl (by (rw [fl_succ (by assumption), List.length_append])), rfl, rfl, trivial⟩, by ((try clear S); (try clear E); first | assumption | omega | rfl | (simp; done) | (simp_all; done) | (simp [List.take_add_one, *]; done) | grind [List.take_add_one])⟩, by omega⟩
  · replace hc_2 := of_decide_eq_false hc_2
    refine WP_exit ?_
    refine T_x ?_
    refine T_x ?_
    refine B_x ?_
    refine T_n ?_
    refine WP_seq ?_
    refine WP_region ?_
    refine S_v E rfl (R_move E rfl) rfl ?_
    clear E a; intro a E
    refine S_x (X_makeMapR E S rfl MT103 rfl ?_)
    clear E a S; rintro a w b_6 E S
    replace S : St w M_1 (OwnE (Value.int .i64) b_6 ([] : List (Int × Int)) :: _) := S
    refine S_v E rfl (R_assign E rfl) rfl ?_
    clear E a; intro a E
    refine WL_nil ?_
    refine T_n ?_
    refine WP_seq ?_
    refine WP_seq ?_
    refine WP_region ?_
    refine S_v E rfl (R_move E rfl) rfl ?_
    clear E a; intro a E
    refine S_v E rfl (R_lenV E rfl T126 h0.len) rfl ?_
    clear E a; intro a E
    refine S_v E rfl (R_move E rfl) rfl ?_
    clear E a; intro a E
    refine WL_nil ?_
    refine T_n ?_
    refine WP_block ?_
    refine WP_loop (γ := Nat) (fun (k : Nat) a w => ∃ (M_7 : Hp) (q5 : PLst), Hp.le M_1 M_7 ∧ St w M_7 (OwnE (Value.int .i64) b_6 q5 :: H) ∧ Env a 44 [] [(0, v0), (5, .map (some b_6)), (25, .int .i64 (((l0).length : Nat) : Int)), (26, .int .i64 ((k : Nat) : Int))] ∧ (k ≤ (l0).length) ∧ ((q5.map Prod.fst).Nodup) ∧ (lkE q5 = lkE ((l0.take k).flatten))) (fun k => ((l0).length) - k) 0 ⟨M_1, _, Hp.le.refl _, S, E.keep ⟨rfl, rfl, rfl, rfl, trivial⟩, by ((try clear S); (try clear E); first | assumption | omega | rfl | (simp; done) | (simp_all; done) | (simp [List.take_add_one, *]; done) | grind [List.take_add_one]), (by simp), (by rfl)⟩ ?_
    try clear E
    try clear S
    try clear a
    try clear w
    rintro k a w ⟨M_7, q5, hM_7, S, E, hL1_0, hL1_1, hL1_2⟩
    replace h0 := h0.le RMp_mono hM_7
    refine WP_seq ?_
    refine WP_region ?_
    refine S_v E rfl (R_lss E rfl rfl) rfl ?_
    clear E a; intro a E
    refine WL_nil ?_
    refine T_n ?_
    refine WP_seq ?_
    refine WP_cond E rfl (fun hc_8 => ?_) (fun hc_8 => ?_)
    · replace hc_8 := of_decide_eq_true hc_8
      refine WP_skip ?_
      refine T_n ?_
      refine WP_seq ?_
      refine WP_block ?_
      refine WP_seq ?_
      refine WP_region ?_
      refine S_v E rfl (R_move E rfl) rfl ?_
      clear E a; intro a E
      refine S_v E rfl (R_assign E rfl) rfl ?_
      clear E a; intro a E
      refine WL_nil ?_
      refine T_n ?_
      refine WP_seq ?_
      refine WP_region ?_
      refine S_v E rfl (R_move E rfl) rfl ?_
      clear E a; intro a E
      refine S_v E rfl (R_move E rfl) rfl ?_
      clear E a; intro a E
      obtain ⟨x_9, hx_9⟩ : ∃ x, (l0)[k]? = some x := ⟨_, List.getElem?_eq_getElem (by first | omega | (simp; done) | (simp; omega) | (simp_all; omega))⟩
      obtain ⟨p_10, u_11, hp_10, qp_10, hu_11⟩ := RdMp.at h0 hx_9
      refine S_v E rfl (R_idx E rfl rfl T126 hp_10 rfl) rfl ?_
      clear E a; intro a E
      refine S_v E rfl (R_loadM E rfl Try.isAgg103 S.imm qp_10) rfl ?_
      clear E a; intro a E
      refine S_x (X_range E S rfl MT103 hu_11 rfl ?_)
      clear E a S; rintro a w i_12 es_13 ck_14 E hf_15 S
      replace S : St w M_7 (ItO u_11 es_13 ck_14 i_12 (encE (Value.int .i64) ([] : List (Int × Int))) :: _) := S
      refine WL_nil ?_
      refine T_n ?_
      refine WP_block ?_
      replace S := S.front1
      replace S := S.front1
      replace S := S.front1
      replace S := S.reM (L' := (encE (Value.int .i64) (putA q5 []))) (congrArg (encE (Value.int .i64)) (show q5 = putA q5 [] by first | rfl | (simp; done) | exact putA_ap2 _ _ _ _))
      replace S := S.front1
      replace S := S.reIt (p' := (encE (Value.int .i64) [])) (congrArg (encE (Value.int .i64)) (show ([] : List (Int × Int)) = [] by first | rfl | (simp; done) | exact putA_ap2 _ _ _ _))
      refine WP_loop (γ := List (Int × Int)) (fun (p : List (Int × Int)) a w => ∃ (M_16 : Hp), Hp.le M_7 M_16 ∧ St w M_16 (ItO u_11 es_13 ck_14 i_12 (encE (Value.int .i64) p) :: OwnE (Value.int .i64) b_6 (putA q5 p) :: H) ∧ Env a 44 [] [(0, v0), (5, .map (some b_6)), (25, .int .i64 (((l0).length : Nat) : Int)), (26, .int .i64 ((k : Nat) : Int)), (33, .pointer (some ⟨i_12, 0, none⟩))] ∧ ((p.map Prod.fst).Nodup) ∧ (∀ z ∈ p, z ∈ x_9) ∧ (p.length ≤ x_9.length)) (fun p => x_9.length - p.length) [] ⟨M_7, Hp.le.refl _, S, E.keep ⟨rfl, rfl, rfl, rfl, rfl, trivial⟩, (by simp), (by simp), (by simp)⟩ ?_
      try clear E
      try clear S
      try clear a
      try clear w
      rintro p a w ⟨M_16, hM_16, S, E, hL2_0, hL2_1, hL2_2⟩
      replace h0 := h0.le RMp_mono hM_16
      replace hu_11 := hu_11.le hM_16
      replace hf_15 := hf_15.le hM_16
      refine WP_seq ?_
      refine WP_region ?_
      refine S_x (X_nextE (vf := (Value.int .i64)) E S rfl hf_15 rfl (by assumption) (by assumption) ?_ ?_)
      · clear E a S; rintro a E hpm_17 S
        refine S_v E rfl (R_extract E rfl rfl) rfl ?_
        clear E a; intro a E
        refine WL_nil ?_
        refine T_n ?_
        refine WP_seq ?_
        refine WP_condF E rfl rfl ?_
        refine WP_exit ?_
        refine T_x ?_
        refine T_x ?_
        refine B_x ?_
        refine B_n ?_
        refine T_n ?_
        refine WP_region ?_
        refine S_v E rfl (R_addx (m := ((k + 1 : Nat) : Int)) E rfl rfl (by (have h9 := fl_lt (by assumption); omega)) (by (have h9 := fl_lt (by assumption); omega))) rfl ?_
        clear E a; intro a E
        refine S_v E rfl (R_move E rfl) rfl ?_
        clear E a; intro a E
        refine WL_nil ?_
        refine T_n ?_
        replace S := S.drop
        exact ⟨k + 1, ⟨M_16, _, (hM_7.trans hM_16), S, E.keep ⟨rfl, rfl, rfl, rfl, trivial⟩, by ((try clear S); (try clear E); first | assumption | omega | rfl | (simp; done) | (simp_all; done) | (simp [List.take_add_one, *]; done) | grind [List.take_add_one]), (by exact putA_nd (by assumption)), (by exact asg_step (by assumption) (by assumption) (by assumption) (by assumption) (by assumption))⟩, by omega⟩
      · clear E a S w; rintro a w k_18 u_20 E hk_19 hk_19n hk_19l S
        refine S_v E rfl (R_extract E rfl rfl) rfl ?_
        clear E a; intro a E
        refine WL_nil ?_
        refine T_n ?_
        refine WP_seq ?_
        refine WP_condT E rfl rfl ?_
        refine WP_skip ?_
        refine T_n ?_
        refine WP_block ?_
        refine WP_seq ?_
        refine WP_region ?_
        refine S_v E rfl (R_entry (k := k_18) (v := .int .i64 u_20) E (by have S1 := S; simp only [encE, List.map_append, List.map_cons, List.map_nil] at S1; exact S1) hf_15 rfl) rfl ?_
        clear E a; intro a E
        refine S_v E rfl (R_extract E rfl rfl) rfl ?_
        clear E a; intro a E
        refine S_v E rfl (R_extract E rfl rfl) rfl ?_
        clear E a; intro a E
        refine S_v E rfl (R_assign E rfl) rfl ?_
        clear E a; intro a E
        refine S_v E rfl (R_assign E rfl) rfl ?_
        clear E a; intro a E
        refine WL_nil ?_
        refine T_n ?_
        refine WP_region ?_
        refine S_v E rfl (R_move E rfl) rfl ?_
        clear E a; intro a E
        refine S_v E rfl (R_move E rfl) rfl ?_
        clear E a; intro a E
        refine S_v E rfl (R_move E rfl) rfl ?_
        clear E a; intro a E
        replace S := S.front1
        refine S_x0 (X_updateE (vf := (Value.int .i64)) (u := u_20) E S MT103 rfl rfl rfl ?_)
        clear E a S; rintro a w E S
        refine WL_nil ?_
        refine B_n ?_
        refine T_n ?_
        replace S := S.front1
        replace S := S.front1
        replace S := S.reM (L' := (encE (Value.int .i64) (putA q5 (p ++ [(k_18, u_20)])))) (congrArg (encE (Value.int .i64)) (show putK (putA q5 p) k_18 u_20 = putA q5 (p ++ [(k_18, u_20)]) by first | rfl | (simp; done) | exact putA_ap2 _ _ _ _))
        replace S := S.front1
        replace S := S.reIt (p' := (encE (Value.int .i64) (p ++ [(k_18, u_20)]))) (congrArg (encE (Value.int .i64)) (show p ++ [(k_18, u_20)] = (p ++ [(k_18, u_20)]) by first | rfl | (simp; done) | exact putA_ap2 _ _ _ _))
        exact ⟨(p ++ [(k_18, u_20)]), ⟨M_16, hM_16, S, E.keep ⟨rfl, rfl, rfl, rfl, rfl, trivial⟩, (by exact snocNk (by assumption) (by assumption)), (by exact snocSk (by assumption) (by assumption)), (by simp; omega)⟩, (by simp; omega)⟩
    · replace hc_8 := of_decide_eq_false hc_8
      refine WP_exit ?_
      refine T_x ?_
      refine T_x ?_
      refine B_x ?_
      refine T_n ?_
      refine WP_seq ?_
      refine WP_region ?_
      refine S_v E rfl (R_move E rfl) rfl ?_
      clear E a; intro a E
      refine S_v E rfl (R_assign E rfl) rfl ?_
      clear E a; intro a E
      refine WL_nil ?_
      refine T_n ?_
      refine WP_ret ?_
      have S0 := S; clear S
      obtain ⟨M_21, hM_21, hm_22, S⟩ := S0.freezeM
      clear S0
      replace h0 := h0.le RMp_mono hM_21
      exact F_ret1 E Try.results132 rfl ⟨_, rfl, M_21, (hM_1.trans (hM_7.trans hM_21)), ⟨_, hm_22, by (rw [← List.take_of_length_le (l := l0) (i := k) (by omega)]; assumption)⟩, S⟩

set_option maxRecDepth 100000 in
set_option maxHeartbeats 4000000 in
def Try.gsv6_ren : Go.Shelf.Ren := ⟨fun | 6 => 162 | 10 => 174 | 11 => 175 | 12 => 176 | 13 => 177 | 14 => 178 | 24 => 191 | 25 => 192 | 26 => 193 | 27 => 194 | 28 => 195 | 29 => 196 | 30 => 197 | 31 => 198 | 32 => 199 | 33 => 200 | 34 => 202 | 35 => 203 | 36 => 204 | 37 => 205 | 38 => 206 | 39 => 216 | n => n, fun | 20 => 20 | 26 => 121 | 35 => 162 | 0 => 0 | 37 => 164 | 3 => 3 | 41 => 168 | 44 => 171 | 49 => 177 | 51 => 172 | 4 => 4 | 54 => 181 | 53 => 180 | 58 => 153 | 5 => 5 | 9 => 9 | 60 => 187 | 64 => 191 | 66 => 200 | 67 => 152 | 17 => 17 | 32 => 159 | 33 => 160 | 82 => 220 | 12 => 12 | 75 => 213 | 76 => 214 | 77 => 215 | 78 => 216 | 79 => 217 | 80 => 218 | n => n, fun | n => n⟩
set_option maxRecDepth 100000 in
set_option maxHeartbeats 4000000 in
theorem Try.gsv6 : Go.Proofs.LaysGg.n6 Try.prog Try.gsv6_ren := {
  mixed := by kernel_rfl,
  f6 := Try.func162.trans (congrArg some (by kernel_rfl)),
  f10 := Try.func174.trans (congrArg some (by kernel_rfl)),
  f11 := Try.func175.trans (congrArg some (by kernel_rfl)),
  f12 := Try.func176.trans (congrArg some (by kernel_rfl)),
  f13 := Try.func177.trans (congrArg some (by kernel_rfl)),
  f14 := Try.func178.trans (congrArg some (by kernel_rfl)),
  f24 := Try.func191.trans (congrArg some (by kernel_rfl)),
  f25 := Try.func192.trans (congrArg some (by kernel_rfl)),
  f26 := Try.func193.trans (congrArg some (by kernel_rfl)),
  f27 := Try.func194.trans (congrArg some (by kernel_rfl)),
  f28 := Try.func195.trans (congrArg some (by kernel_rfl)),
  f29 := Try.func196.trans (congrArg some (by kernel_rfl)),
  f30 := Try.func197.trans (congrArg some (by kernel_rfl)),
  f31 := Try.func198.trans (congrArg some (by kernel_rfl)),
  f32 := Try.func199.trans (congrArg some (by kernel_rfl)),
  f33 := Try.func200.trans (congrArg some (by kernel_rfl)),
  f34 := Try.func202.trans (congrArg some (by kernel_rfl)),
  f35 := Try.func203.trans (congrArg some (by kernel_rfl)),
  f36 := Try.func204.trans (congrArg some (by kernel_rfl)),
  f37 := Try.func205.trans (congrArg some (by kernel_rfl)),
  f38 := Try.func206.trans (congrArg some (by kernel_rfl)),
  f39 := Try.func216.trans (congrArg some (by kernel_rfl)),
  t0 := Try.underlying0,
  a0 := Try.isAgg0,
  z0 := Try.sizeOf0,
  v0 := Try.zeroValue0,
  i0 := by kernel_rfl,
  t3 := Try.underlying3,
  a3 := Try.isAgg3,
  z3 := Try.sizeOf3,
  v3 := Try.zeroValue3,
  i3 := by kernel_rfl,
  t4 := Try.underlying4,
  a4 := Try.isAgg4,
  z4 := Try.sizeOf4,
  v4 := Try.zeroValue4,
  i4 := by kernel_rfl,
  t5 := Try.underlying5,
  a5 := Try.isAgg5,
  z5 := Try.sizeOf5,
  v5 := Try.zeroValue5,
  i5 := by kernel_rfl,
  t9 := Try.underlying9,
  a9 := Try.isAgg9,
  z9 := Try.sizeOf9,
  v9 := Try.zeroValue9,
  i9 := by kernel_rfl,
  t12 := Try.underlying12,
  a12 := Try.isAgg12,
  z12 := Try.sizeOf12,
  v12 := Try.zeroValue12,
  i12 := by kernel_rfl,
  t17 := Try.underlying17,
  a17 := Try.isAgg17,
  z17 := Try.sizeOf17,
  v17 := Try.zeroValue17,
  i17 := by kernel_rfl,
  t20 := Try.underlying20,
  a20 := Try.isAgg20,
  z20 := Try.sizeOf20,
  v20 := Try.zeroValue20,
  i20 := by kernel_rfl,
  t26 := Try.underlying121,
  a26 := Try.isAgg121,
  z26 := Try.sizeOf121,
  v26 := Try.zeroValue121,
  i26 := by kernel_rfl,
  t32 := Try.underlying159,
  a32 := Try.isAgg159,
  z32 := Try.sizeOf159,
  v32 := Try.zeroValue159,
  i32 := by kernel_rfl,
  t33 := Try.underlying160,
  a33 := Try.isAgg160,
  z33 := Try.sizeOf160,
  v33 := Try.zeroValue160,
  i33 := by kernel_rfl,
  t35 := Try.underlying162,
  a35 := Try.isAgg162,
  z35 := Try.sizeOf162,
  v35 := Try.zeroValue162,
  i35 := by kernel_rfl,
  t37 := Try.underlying164,
  a37 := Try.isAgg164,
  z37 := Try.sizeOf164,
  v37 := Try.zeroValue164,
  i37 := by kernel_rfl,
  t41 := Try.underlying168,
  a41 := Try.isAgg168,
  z41 := Try.sizeOf168,
  v41 := Try.zeroValue168,
  i41 := by kernel_rfl,
  t44 := Try.underlying171,
  a44 := Try.isAgg171,
  z44 := Try.sizeOf171,
  v44 := Try.zeroValue171,
  i44 := by kernel_rfl,
  t49 := Try.underlying177,
  a49 := Try.isAgg177,
  z49 := Try.sizeOf177,
  v49 := Try.zeroValue177,
  i49 := by kernel_rfl,
  t51 := Try.underlying172,
  a51 := Try.isAgg172,
  z51 := Try.sizeOf172,
  v51 := Try.zeroValue172,
  i51 := by kernel_rfl,
  t53 := Try.underlying180,
  a53 := Try.isAgg180,
  z53 := Try.sizeOf180,
  v53 := Try.zeroValue180,
  i53 := by kernel_rfl,
  t54 := Try.underlying181,
  a54 := Try.isAgg181,
  z54 := Try.sizeOf181,
  v54 := Try.zeroValue181,
  i54 := by kernel_rfl,
  t58 := Try.underlying153,
  a58 := Try.isAgg153,
  z58 := Try.sizeOf153,
  v58 := Try.zeroValue153,
  i58 := by kernel_rfl,
  t60 := Try.underlying187,
  a60 := Try.isAgg187,
  z60 := Try.sizeOf187,
  v60 := Try.zeroValue187,
  i60 := by kernel_rfl,
  t64 := Try.underlying191,
  a64 := Try.isAgg191,
  z64 := Try.sizeOf191,
  v64 := Try.zeroValue191,
  i64 := by kernel_rfl,
  t66 := Try.underlying200,
  a66 := Try.isAgg200,
  z66 := Try.sizeOf200,
  v66 := Try.zeroValue200,
  i66 := by kernel_rfl,
  t67 := Try.underlying152,
  a67 := Try.isAgg152,
  z67 := Try.sizeOf152,
  v67 := Try.zeroValue152,
  i67 := by kernel_rfl,
  t75 := Try.underlying213,
  a75 := Try.isAgg213,
  z75 := Try.sizeOf213,
  v75 := Try.zeroValue213,
  i75 := by kernel_rfl,
  t76 := Try.underlying214,
  a76 := Try.isAgg214,
  z76 := Try.sizeOf214,
  v76 := Try.zeroValue214,
  i76 := by kernel_rfl,
  t77 := Try.underlying215,
  a77 := Try.isAgg215,
  z77 := Try.sizeOf215,
  v77 := Try.zeroValue215,
  i77 := by kernel_rfl,
  t78 := Try.underlying216,
  a78 := Try.isAgg216,
  z78 := Try.sizeOf216,
  v78 := Try.zeroValue216,
  i78 := by kernel_rfl,
  t79 := Try.underlying217,
  a79 := Try.isAgg217,
  z79 := Try.sizeOf217,
  v79 := Try.zeroValue217,
  i79 := by kernel_rfl,
  t80 := Try.underlying218,
  a80 := Try.isAgg218,
  z80 := Try.sizeOf218,
  v80 := Try.zeroValue218,
  i80 := by kernel_rfl,
  t82 := Try.underlying220,
  a82 := Try.isAgg220,
  z82 := Try.sizeOf220,
  v82 := Try.zeroValue220,
  i82 := by kernel_rfl }

set_option maxRecDepth 100000 in
set_option maxHeartbeats 4000000 in
section
open Go Go.Proofs Go.Shelf Go.RowKit Go.Lib Go.Sort
noncomputable def sort_pairsT : TypeInfo := (Try.prog.info? 33).get (by kernel_rfl)
noncomputable def sort_pairsE : TypeInfo := (Try.prog.info? 59).get (by kernel_rfl)
set_option maxHeartbeats 2000000 in
theorem sort_pairs_less (Bs blk off c size : Nat) (W : World) (G : Nat → Int) (hs : W.cell? ⟨Bs, 0, none⟩ = some (.slice (some ⟨blk, off, none⟩) size c))
    (hc : ∀ t, t < size → W.cell? ⟨blk, off + t * 2, none⟩ = some (.int .i64 (G t))) (i j : Nat) (hi : i < size) (hj : j < size) (_hsz : size < 4611686018427387904) :
    Calls Try.prog 163 #[.int .i64 i, .int .i64 j, .pointer (some ⟨Bs, 0, none⟩)] W fun e w' => e = .returned (.bool (decide (G i < G j))) ∧ ∃ q, w' = W.drewN q := by
  have ci := hc i hi
  have cj := hc j hj
  go_enter Try.func163, Try.ntmps163
  go_wp2
  go_quiet (fail)
  go_wp2
  go_ret
  exact ⟨rfl, nq, rfl⟩
theorem sort_pairs_sw2 (n : Nat) (h : 2 ≤ n) : Lib.swapperK n sort_pairsE 25 = 9 := by
  have c : (n == 0) = false := by simp; omega
  have d : (n == 1) = false := by simp; omega
  have e : sort_pairsE.hasPointers = false := by kernel_rfl
  have b : sort_pairsE.bytes = 16 := by kernel_rfl
  simp [Lib.swapperK, c, d, e, b]
theorem sort_pairs_sw1 : Lib.swapperK 1 sort_pairsE 25 = 2 := rfl
theorem sort_pairs_sw0 : Lib.swapperK 0 sort_pairsE 25 = 1 := rfl
theorem sort_pairs {Bs : Nat} {M : Hp} {v : Value} {l : List (Int × Int)} {xs : List Value} (hr : RowsR RP2 2 M l xs) (hn : (l.map Prod.fst).Nodup) (hb : l.length ≤ 1000000000000) :
    Sp Try.prog (.func (.func 162) #[] #[]) M [.iface 33 v, .func (.func 163) #[] #[.pointer (some ⟨Bs, 0, none⟩)]] [OwnC 59 2 v l.length xs, Go.Sl.blk Bs (.cells #[v] 33)]
      (fun r M' C' => ∃ xs', RowsR RP2 2 M' (srtK Prod.fst l) xs' ∧ C' = [OwnC 59 2 v (srtK Prod.fst l).length xs', Go.Sl.blk Bs (.cells #[v] 33)]) :=
  sortK_sp Try.call162 (fun blk off c size W G a b i j c1 c2 c3 => sort_pairs_less Bs blk off c size W G a b i j c1 c2 c3)
    (fun blk c d w h2 hsz hless hH hblk => Any.sort_Slice_cells_sorted Try.gsv6 33 59 sort_pairsT sort_pairsE (by kernel_rfl) (by kernel_rfl) (by kernel_rfl) (by kernel_rfl) 25 (fun _ => by kernel_rfl) encK 2 (fun _ => rfl) (by kernel_rfl) (fun _ => by kernel_rfl)
      encK_one ltK swo_ltK 163 _ (enters_of Try.func163 (by kernel_rfl) rfl) blk 0 c d h2 hsz 190 (by rw [sort_pairs_sw2 _ h2]; kernel_rfl) false
      (fun args W => run_callFunc_extern Try.func190 (by kernel_rfl) (by kernel_rfl) (by kernel_rfl) (e := Extern.ReflectliteSwapper.swap false) (by kernel_rfl) args W) w hless hH hblk)
    (fun p n c w h1 => by
      rcases (show n = 0 ∨ n = 1 by omega) with rfl | rfl
      · exact Any.sort_Slice_tiny Try.gsv6 33 59 sort_pairsT sort_pairsE (by kernel_rfl) (by kernel_rfl) (by kernel_rfl) (by kernel_rfl) 25 (fun _ => by kernel_rfl) p 0 c h1 182 (by rw [sort_pairs_sw0]; kernel_rfl) _ _ _ w
      · exact Any.sort_Slice_tiny Try.gsv6 33 59 sort_pairsT sort_pairsE (by kernel_rfl) (by kernel_rfl) (by kernel_rfl) (by kernel_rfl) 25 (fun _ => by kernel_rfl) p 1 c h1 183 (by rw [sort_pairs_sw1]; kernel_rfl) _ _ _ w)
    (fun M cs x h => RP2_K h) RP2_mono hr hn hb
end

set_option maxRecDepth 100000 in
set_option maxHeartbeats 4000000 in
theorem impl_pairs {M : Hp} {m0 : Value} {q0 : List (Int × Int)} (hm0 : RdM M m0 (encE (Value.int .i64) q0)) (hb : q0.length ≤ 1000000000000) :
    Pu Try.prog (.func (.func 99) #[] #[]) M [m0] (fun r M' => RdS 2 RP2 M' r (srtK Prod.fst q0)) := by
  refine Pu_enter Try.func99 rfl Try.ntmps99 rfl Try.call99 ?_
  intro a w M1 H hM1 S E
  replace hm0 := hm0.le hM1
  have hnq : (q0.map Prod.fst).Nodup := keys_encE (Value.int .i64) q0 ▸ hm0.nodup
  refine WP_seq ?_
  refine WP_region ?_
  refine S_v E rfl (R_assign E rfl) rfl ?_
  clear E a; intro a E
  refine WL_nil ?_
  refine T_n ?_
  refine WP_seq ?_
  refine WP_region ?_
  refine S_x (X_alloc (cs := #[.slice none 0 0]) E S rfl Try.zeroValue33 rfl ?_)
  clear E a S; rintro a w b_1 E S
  refine WL_nil ?_
  refine T_n ?_
  refine WP_seq ?_
  refine WP_seq ?_
  refine WP_region ?_
  refine S_v E rfl (R_move E rfl) rfl ?_
  clear E a; intro a E
  refine S_x (X_range E S rfl MT103 hm0 rfl ?_)
  clear E a S; rintro a w i_2 es_3 ck_4 E hf_5 S
  replace S : St w M1 (ItO m0 es_3 ck_4 i_2 (encE (Value.int .i64) ([] : List (Int × Int))) :: _) := S
  refine WL_nil ?_
  refine T_n ?_
  refine WP_block ?_
  replace S : St w M1 (OwnC 59 2 (.slice none 0 0) ([] : List (Int × Int)).length [] :: _) := S.ownNil
  have hr_7 : RowsR RP2 2 M1 ([] : List (Int × Int)) [] := RowsR.nil
  replace S := S.front1
  replace S := S.front1
  have hre : ([] : List (Int × Int)) = [] := by first | rfl | (simp; done)
  replace S := S.reR hre
  replace hr_7 := hr_7.eq hre
  clear hre
  replace S := S.front1
  replace S := S.reIt (p' := (encE (Value.int .i64) [])) (congrArg (encE (Value.int .i64)) (show ([] : List (Int × Int)) = [] by first | rfl | (simp; done)))
  refine WP_loop (γ := List (Int × Int)) (fun (p : List (Int × Int)) a w => ∃ (M_8 : Hp) (u3 : Value) (xs3 : List Value), Hp.le M1 M_8 ∧ St w M_8 (ItO m0 es_3 ck_4 i_2 (encE (Value.int .i64) p) :: OwnC 59 2 u3 p.length xs3 :: blk b_1 (.cells #[u3] 33) :: H) ∧ Env a 24 [] [(3, .pointer (some ⟨b_1, 0, none⟩)), (7, .pointer (some ⟨i_2, 0, none⟩))] ∧ ((p.map Prod.fst).Nodup) ∧ (∀ z ∈ p, z ∈ q0) ∧ (p.length ≤ q0.length) ∧ RowsR RP2 2 M_8 p xs3) (fun p => q0.length - p.length) [] ⟨M1, _, _, Hp.le.refl _, S, E.keep ⟨rfl, rfl, trivial⟩, (by simp), (by simp), (by simp), hr_7⟩ ?_
  try clear E
  try clear S
  try clear a
  try clear w
  rintro p a w ⟨M_8, u3, xs3, hM_8, S, E, hL0_0, hL0_1, hL0_2, hr3⟩
  replace hm0 := hm0.le hM_8
  replace hf_5 := hf_5.le hM_8
  refine WP_seq ?_
  refine WP_region ?_
  refine S_x (X_nextE (vf := (Value.int .i64)) E S rfl hf_5 rfl (by assumption) (by assumption) ?_ ?_)
  · clear E a S; rintro a E hpm_9 S
    refine S_v E rfl (R_extract E rfl rfl) rfl ?_
    clear E a; intro a E
    refine WL_nil ?_
    refine T_n ?_
    refine WP_seq ?_
    refine WP_condF E rfl rfl ?_
    refine WP_exit ?_
    refine T_x ?_
    refine T_x ?_
    refine B_x ?_
    refine T_n ?_
    refine WP_seq ?_
    refine WP_region ?_
    refine S_v E rfl (R_load E rfl (Try.isAgg33 _) (cell_blk (S.mem (.tail _ (.tail _ (.head _)))))) rfl ?_
    clear E a; intro a E
    refine S_v E rfl (R_iface E rfl T33.und) rfl ?_
    clear E a; intro a E
    refine S_v E rfl (R_makeFunc E rfl rfl) rfl ?_
    clear E a; intro a E
    replace S := S.front2
    replace S := S.front2
    refine S_x (X_sp (p := [OwnC 59 2 u3 p.length xs3, blk b_1 (.cells #[u3] 33)]) E S rfl rfl rfl (sort_pairs hr3 (by first | assumption | exact keys_perm (by assumption) hnq) (by (first | (rw [srtK_len]; omega) | omega | (simp; omega)))) (Hp.le.refl _) ?_)
    clear E a S; rintro a _ w M_10 _ hM_10 ⟨xs_11, hr_12, rfl⟩ S E
    replace S : St w M_10 (OwnC 59 2 u3 (srtK Prod.fst p).length xs_11 :: blk b_1 (.cells #[u3] 33) :: _) := S
    replace hm0 := hm0.le hM_10
    replace hf_5 := hf_5.le hM_10
    refine WL_nil ?_
    refine T_n ?_
    refine WP_seq ?_
    refine WP_region ?_
    refine S_v E rfl (R_load E rfl (Try.isAgg33 _) (cell_blk (S.mem (.tail _ (.head _))))) rfl ?_
    clear E a; intro a E
    refine S_v E rfl (R_assign E rfl) rfl ?_
    clear E a; intro a E
    refine WL_nil ?_
    refine T_n ?_
    refine WP_ret ?_
    have S0 := S; clear S
    obtain ⟨M_13, hM_13, hz_14, S⟩ := S0.freezeR hr_12 RP2_mono (by (first | (rw [srtK_len]; omega) | omega | (simp; omega)))
    clear S0
    replace hm0 := hm0.le hM_13
    replace hf_5 := hf_5.le hM_13
    exact F_ret1 E Try.results99 rfl ⟨_, rfl, M_13, (hM_8.trans (hM_10.trans hM_13)), (by rw [show (srtK Prod.fst q0) = (srtK Prod.fst p) from by (first | exact srtK_perm_eq hnq (by assumption) | exact (srtK_perm_eq hnq (by assumption)).symm)]; exact hz_14), S.drop.drop⟩
  · clear E a S w; rintro a w k_15 u_17 E hk_16 hk_16n hk_16l S
    refine S_v E rfl (R_extract E rfl rfl) rfl ?_
    clear E a; intro a E
    refine WL_nil ?_
    refine T_n ?_
    refine WP_seq ?_
    refine WP_condT E rfl rfl ?_
    refine WP_skip ?_
    refine T_n ?_
    refine WP_block ?_
    refine WP_seq ?_
    refine WP_region ?_
    refine S_v E rfl (R_entry (k := k_15) (v := .int .i64 u_17) E (by have S1 := S; simp only [encE, List.map_append, List.map_cons, List.map_nil] at S1; exact S1) hf_5 rfl) rfl ?_
    clear E a; intro a E
    refine S_v E rfl (R_extract E rfl rfl) rfl ?_
    clear E a; intro a E
    refine S_v E rfl (R_extract E rfl rfl) rfl ?_
    clear E a; intro a E
    refine S_v E rfl (R_assign E rfl) rfl ?_
    clear E a; intro a E
    refine S_v E rfl (R_assign E rfl) rfl ?_
    clear E a; intro a E
    refine WL_nil ?_
    refine T_n ?_
    refine WP_region ?_
    refine S_v E rfl (R_load E rfl (Try.isAgg33 _) (cell_blk (S.mem (.tail _ (.tail _ (.head _)))))) rfl ?_
    clear E a; intro a E
    refine S_v E rfl (R_move E rfl) rfl ?_
    clear E a; intro a E
    refine S_v E rfl (R_move E rfl) rfl ?_
    clear E a; intro a E
    refine S_v E rfl (R_build (u := .agg #[.int .i64 k_15, .int .i64 u_17]) (vs := [.int .i64 k_15, .int .i64 u_17]) E rfl (fun w => FB59_0_1_ii k_15 u_17 w)) rfl ?_
    clear E a; intro a E
    refine S_x (X_buildA1 (R := RP2) (cs := [.int .i64 k_15, .int .i64 u_17]) (x0 := (k_15, u_17)) RP2_mono E S rfl T33 rfl rfl rfl rfl ?_)
    clear E a S; rintro a v_18 w M_19 hM_19 hv_18 S E
    replace hm0 := hm0.le hM_19
    replace hf_5 := hf_5.le hM_19
    replace hr3 := hr3.le RP2_mono hM_19
    replace S := S.front1
    refine S_x (X_appendR (R := RP2) (zs := p) (ys := [(k_15, u_17)]) E S hr3 rfl rfl rfl T33 hv_18 one_RP2 (by first | omega | (simp; done) | (simp; omega) | (simp_all; omega)) (by first | omega | (simp; done) | (simp; omega) | (simp_all; omega)) ?_)
    clear E a S; rintro a w v_20 xs_21 E hr_22 S
    have ho_23 := S.oneC
    replace S := S.front2
    refine S_x0 (X_store E S rfl rfl (Try.sizeOf33 _) ho_23 ?_)
    clear E a S; rintro a w E S
    refine WL_nil ?_
    refine B_n ?_
    refine T_n ?_
    replace S := S.front1
    replace S := S.front2
    replace S := S.front1
    have hre : p ++ [(k_15, u_17)] = (p ++ [(k_15, u_17)]) := by first | rfl | (simp; done)
    replace S := S.reR hre
    replace hr_22 := hr_22.eq hre
    clear hre
    replace S := S.front1
    replace S := S.reIt (p' := (encE (Value.int .i64) (p ++ [(k_15, u_17)]))) (congrArg (encE (Value.int .i64)) (show p ++ [(k_15, u_17)] = (p ++ [(k_15, u_17)]) by first | rfl | (simp; done)))
    exact ⟨(p ++ [(k_15, u_17)]), ⟨M_19, _, _, (hM_8.trans hM_19), S, E.keep ⟨rfl, rfl, trivial⟩, (by exact snocNk (by assumption) (by assumption)), (by exact snocSk (by assumption) (by assumption)), (by simp; omega), hr_22⟩, (by simp; omega)⟩

set_option maxRecDepth 100000 in
set_option maxHeartbeats 4000000 in
theorem impl_Assign {M : Hp} {v0 : Value} {l0 : List (List (Int × Int))} (h0 : RdS 1 (RSl 2 RP2) M v0 l0) (hb : l0.flatten.length ≤ 1000000000000) (hbl : l0.length ≤ 1000000000000) :
    Pu Try.prog (.func (.func 59) #[] #[]) M [v0] (fun r M' => RdS 2 RP2 M' r (entE (l0).flatten)) := by
  refine Pu_enter Try.func59 rfl Try.ntmps59 rfl Try.call59 ?_
  intro a w M1 H hM1 S E
  replace h0 := h0.le (RSl_mono RP2_mono) hM1
  have b0 := h0.bound
  refine WP_seq ?_
  refine WP_region ?_
  refine S_v E rfl (R_assign E rfl) rfl ?_
  clear E a; intro a E
  refine WL_nil ?_
  refine T_n ?_
  refine WP_seq ?_
  refine WP_region ?_
  refine S_v E rfl (R_assign E rfl) rfl ?_
  clear E a; intro a E
  refine WL_nil ?_
  refine T_n ?_
  refine WP_seq ?_
  refine WP_seq ?_
  refine WP_region ?_
  refine S_v E rfl (R_move E rfl) rfl ?_
  clear E a; intro a E
  refine S_v E rfl (R_lenV E rfl T70 h0.len) rfl ?_
  clear E a; intro a E
  refine S_v E rfl (R_move E rfl) rfl ?_
  clear E a; intro a E
  refine WL_nil ?_
  refine T_n ?_
  refine WP_block ?_
  replace S : St w M1 (OwnC 103 1 (.slice none 0 0) ([] : List (List (Int × Int))).length [] :: _) := S.ownNil
  have hr_2 : RowsR RMp 1 M1 ([] : List (List (Int × Int))) [] := RowsR.nil
  have hre : ([] : List (List (Int × Int))) = (l0.take 0).map mkE := by first | (simp; done) | (rw [tk_snoc (by assumption), List.map_append]; rfl)
  replace S := S.reR hre
  replace hr_2 := hr_2.eq hre
  clear hre
  refine WP_loop (γ := Nat) (fun (k : Nat) a w => ∃ (M_3 : Hp) (u3 : Value) (xs3 : List Value), Hp.le M1 M_3 ∧ St w M_3 (OwnC 103 1 u3 ((l0.take k).map mkE).length xs3 :: H) ∧ Env a 21 [] [(3, u3), (6, v0), (7, .int .i64 (((l0).length : Nat) : Int)), (8, .int .i64 ((k : Nat) : Int))] ∧ (k ≤ (l0).length) ∧ RowsR RMp 1 M_3 ((l0.take k).map mkE) xs3) (fun k => ((l0).length) - k) 0 ⟨M1, _, _, Hp.le.refl _, S, E.keep ⟨rfl, rfl, rfl, rfl, trivial⟩, by ((try clear S); (try clear E); first | assumption | omega | rfl | (simp; done) | (simp_all; done) | (simp [List.take_add_one, *]; done) | grind [List.take_add_one]), hr_2⟩ ?_
  try clear E
  try clear S
  try clear a
  try clear w
  rintro k a w ⟨M_3, u3, xs3, hM_3, S, E, hL0_0, hr3⟩
  replace h0 := h0.le (RSl_mono RP2_mono) hM_3
  refine WP_seq ?_
  refine WP_region ?_
  refine S_v E rfl (R_lss E rfl rfl) rfl ?_
  clear E a; intro a E
  refine WL_nil ?_
  refine T_n ?_
  refine WP_seq ?_
  refine WP_cond E rfl (fun hc_4 => ?_) (fun hc_4 => ?_)
  · replace hc_4 := of_decide_eq_true hc_4
    refine WP_skip ?_
    refine T_n ?_
    refine WP_seq ?_
    refine WP_block ?_
    refine WP_seq ?_
    refine WP_region ?_
    obtain ⟨x_5, hx_5⟩ : ∃ x, (l0)[k]? = some x := ⟨_, List.getElem?_eq_getElem (by first | omega | (simp; done) | (simp; omega) | (simp_all; omega))⟩
    obtain ⟨p_6, u_7, hp_6, qp_6, hu_7⟩ := RdPP.at h0 hx_5
    have bu_7 := hu_7.bound
    refine S_v E rfl (R_idx E rfl rfl T70 hp_6 rfl) rfl ?_
    clear E a; intro a E
    refine S_v E rfl (R_loadM E rfl Try.isAgg33 S.imm qp_6) rfl ?_
    clear E a; intro a E
    refine S_v E rfl (R_assign E rfl) rfl ?_
    clear E a; intro a E
    refine WL_nil ?_
    refine T_n ?_
    refine WP_region ?_
    refine S_v E rfl (R_move E rfl) rfl ?_
    clear E a; intro a E
    refine S_v E rfl (R_move E rfl) rfl ?_
    clear E a; intro a E
    refine S_x (X_pu E S rfl rfl rfl (impl_mapOf hu_7) (Hp.le.refl _) ?_)
    clear E a S; rintro a v_9 w M_8 hM_8 hv_9 S E
    replace h0 := h0.le (RSl_mono RP2_mono) hM_8
    replace hr3 := hr3.le RMp_mono hM_8
    replace hu_7 := hu_7.le RP2_mono hM_8
    refine S_x (X_buildM (R := RMp) (vs := [v_9]) (xs := [mkE x_5]) RMp_mono E S rfl T126 rfl rfl rfl (by intro u hu; simp only [List.mem_cons, List.not_mem_nil, or_false] at hu; rcases hu with rfl <;> first | exact RdM.one' hv_9) rfl (rowsC (R := RMp) ⟨_, rfl, hv_9⟩ rowsN) ?_)
    clear E a S; rintro a v_10 w M_11 hM_11 hv_10 S E
    replace h0 := h0.le (RSl_mono RP2_mono) hM_11
    replace hr3 := hr3.le RMp_mono hM_11
    replace hu_7 := hu_7.le RP2_mono hM_11
    replace hv_9 := hv_9.le hM_11
    refine S_x (X_appendR (R := RMp) (zs := (l0.take k).map mkE) (ys := [mkE x_5]) E S hr3 rfl rfl rfl T126 hv_10 one_RMp (by first | omega | (simp; done) | (simp; omega) | (simp_all; omega)) (by first | omega | (simp; done) | (simp; omega) | (simp_all; omega)) ?_)
    clear E a S; rintro a w v_12 xs_13 E hr_14 S
    refine S_v E rfl (R_assign E rfl) rfl ?_
    clear E a; intro a E
    refine WL_nil ?_
    refine B_n ?_
    refine T_n ?_
    refine WP_region ?_
    refine S_v E rfl (R_addx (m := ((k + 1 : Nat) : Int)) E rfl rfl (by omega) (by omega)) rfl ?_
    clear E a; intro a E
    refine S_v E rfl (R_move E rfl) rfl ?_
    clear E a; intro a E
    refine WL_nil ?_
    refine T_n ?_
    have hre : ((l0.take k).map mkE) ++ [mkE x_5] = (l0.take (k + 1)).map mkE := by first | (simp; done) | (rw [tk_snoc (by assumption), List.map_append]; rfl)
    replace S := S.reR hre
    replace hr_14 := hr_14.eq hre
    clear hre
    exact ⟨k + 1, ⟨M_11, _, _, (hM_3.trans (hM_8.trans hM_11)), S, E.keep ⟨rfl, rfl, rfl, rfl, trivial⟩, by ((try clear S); (try clear E); first | assumption | omega | rfl | (simp; done) | (simp_all; done) | (simp [List.take_add_one, *]; done) | grind [List.take_add_one]), hr_14⟩, by omega⟩
  · replace hc_4 := of_decide_eq_false hc_4
    refine WP_exit ?_
    refine T_x ?_
    refine T_x ?_
    refine B_x ?_
    refine T_n ?_
    refine WP_seq ?_
    refine WP_region ?_
    refine S_v E rfl (R_move E rfl) rfl ?_
    clear E a; intro a E
    have S0 := S; clear S
    obtain ⟨M_15, hM_15, hz_16, S⟩ := S0.freezeR hr3 RMp_mono (by (first | omega | (simp; omega)))
    clear S0
    replace h0 := h0.le (RSl_mono RP2_mono) hM_15
    refine S_x (X_pu E S rfl rfl rfl (lo_Assign hz_16 (by first | omega | exact Nat.le_trans (fl_mk _ _) (by first | omega | (simp; done)) | (simp; omega))) (Hp.le.refl _) ?_)
    clear E a S; rintro a v_18 w M_17 hM_17 ⟨q_19, hv_18, hkq_19⟩ S E
    replace h0 := h0.le (RSl_mono RP2_mono) hM_17
    replace hz_16 := hz_16.le RMp_mono hM_17
    refine S_x (X_pu E S rfl rfl rfl (impl_pairs hv_18 (by first | omega | (exact bigE _ l0 (by first | (rw [ixm_len]; exact Nat.le_refl _) | exact kpix_len _ _ _ | (rw [List.length_map]; exact Nat.le_refl _)) (by omega)) | exact Nat.le_trans (mkE_len _) (by omega) | (exact Nat.le_trans (lk_len (by assumption) (by assumption)) (by first | omega | exact Nat.le_trans (fl_mk _ _) (by omega))) | exact Nat.le_trans (mk_perm_len (by assumption)) (by omega) | (first | omega | (simp; omega) | (simp; done) | (simp_all; omega) | grind))) (Hp.le.refl _) ?_)
    clear E a S; rintro a v_21 w M_20 hM_20 hv_21 S E
    replace h0 := h0.le (RSl_mono RP2_mono) hM_20
    replace hz_16 := hz_16.le RMp_mono hM_20
    replace hv_18 := hv_18.le hM_20
    refine S_v E rfl (R_assign E rfl) rfl ?_
    clear E a; intro a E
    refine WL_nil ?_
    refine T_n ?_
    refine WP_ret ?_
    exact F_ret1 E Try.results59 rfl ⟨_, rfl, M_20, (hM_3.trans (hM_15.trans (hM_17.trans hM_20))), (by rw [show (entE (l0).flatten) = (srtK Prod.fst q_19) from by (exact asg_res (by assumption) (by assumption) (by omega))]; exact hv_21), S⟩

set_option maxRecDepth 100000 in
set_option maxHeartbeats 4000000 in
theorem laws_brief {M : Hp} {v0 : Value} {l0 : List (List (Int × Int))} (h0 : RdS 1 (RSl 2 RP2) M v0 l0) :
    Pu Try.prog (.func (.func 60) #[] #[]) M [v0] (fun r M' => r = .bool (decide ((∀ x ∈ l0, x.length ≤ 200) ∧ (l0).length ≤ 20))) := by
  refine Pu_enter Try.func60 rfl Try.ntmps60 rfl Try.call60 ?_
  intro a w M1 H hM1 S E
  replace h0 := h0.le (RSl_mono RP2_mono) hM1
  have b0 := h0.bound
  refine WP_seq ?_
  refine WP_region ?_
  refine S_v E rfl (R_assign E rfl) rfl ?_
  clear E a; intro a E
  refine WL_nil ?_
  refine T_n ?_
  refine WP_seq ?_
  refine WP_seq ?_
  refine WP_region ?_
  refine S_v E rfl (R_move E rfl) rfl ?_
  clear E a; intro a E
  refine S_v E rfl (R_lenV E rfl T70 h0.len) rfl ?_
  clear E a; intro a E
  refine S_v E rfl (R_move E rfl) rfl ?_
  clear E a; intro a E
  refine WL_nil ?_
  refine T_n ?_
  refine WP_block ?_
  refine WP_loop (γ := Nat) (fun (k : Nat) a w => ∃ (M_1 : Hp), Hp.le M1 M_1 ∧ St w M_1 (H) ∧ Env a 18 [] [(0, v0), (5, v0), (6, .int .i64 (((l0).length : Nat) : Int)), (7, .int .i64 ((k : Nat) : Int))] ∧ (k ≤ (l0).length) ∧ (∀ x ∈ l0.take k, x.length ≤ 200)) (fun k => ((l0).length) - k) 0 ⟨M1, Hp.le.refl _, S, E.keep ⟨rfl, rfl, rfl, rfl, trivial⟩, by ((try clear S); (try clear E); first | assumption | omega | rfl | (simp; done) | (simp_all; done) | (simp [List.take_add_one, *]; done) | grind [List.take_add_one]), (by simp)⟩ ?_
  try clear E
  try clear S
  try clear a
  try clear w
  rintro k a w ⟨M_1, hM_1, S, E, hL0_0, hL0_1⟩
  replace h0 := h0.le (RSl_mono RP2_mono) hM_1
  refine WP_seq ?_
  refine WP_region ?_
  refine S_v E rfl (R_lss E rfl rfl) rfl ?_
  clear E a; intro a E
  refine WL_nil ?_
  refine T_n ?_
  refine WP_seq ?_
  refine WP_cond E rfl (fun hc_2 => ?_) (fun hc_2 => ?_)
  · replace hc_2 := of_decide_eq_true hc_2
    refine WP_skip ?_
    refine T_n ?_
    refine WP_seq ?_
    refine WP_block ?_
    refine WP_seq ?_
    refine WP_region ?_
    obtain ⟨x_3, hx_3⟩ : ∃ x, (l0)[k]? = some x := ⟨_, List.getElem?_eq_getElem (by first | omega | (simp; done) | (simp; omega) | (simp_all; omega))⟩
    obtain ⟨p_4, u_5, hp_4, qp_4, hu_5⟩ := RdPP.at h0 hx_3
    have bu_5 := hu_5.bound
    refine S_v E rfl (R_idx E rfl rfl T70 hp_4 rfl) rfl ?_
    clear E a; intro a E
    refine S_v E rfl (R_loadM E rfl Try.isAgg33 S.imm qp_4) rfl ?_
    clear E a; intro a E
    refine S_v E rfl (R_assign E rfl) rfl ?_
    clear E a; intro a E
    refine WL_nil ?_
    refine T_n ?_
    refine WP_seq ?_
    refine WP_region ?_
    refine S_v E rfl (R_move E rfl) rfl ?_
    clear E a; intro a E
    refine S_v E rfl (R_lenV E rfl T33 hu_5.len) rfl ?_
    clear E a; intro a E
    refine S_v E rfl (R_gtr E rfl rfl) rfl ?_
    clear E a; intro a E
    refine WL_nil ?_
    refine T_n ?_
    refine WP_cond E rfl (fun hc_6 => ?_) (fun hc_6 => ?_)
    · replace hc_6 := of_decide_eq_true hc_6
      refine WP_seq ?_
      refine WP_region ?_
      refine S_v E rfl (R_assign E rfl) rfl ?_
      clear E a; intro a E
      refine WL_nil ?_
      refine T_n ?_
      refine WP_ret ?_
      refine B_r ?_
      refine T_r ?_
      refine T_r ?_
      refine B_r ?_
      refine T_r ?_
      exact F_ret1 E Try.results60 rfl ⟨_, rfl, M_1, hM_1, (bF (by (intro h9; have h8 := h9.1 _ (List.mem_of_getElem? (by assumption)); omega))), S⟩
    · replace hc_6 := of_decide_eq_false hc_6
      refine WP_skip ?_
      refine B_n ?_
      refine T_n ?_
      refine WP_region ?_
      refine S_v E rfl (R_addx (m := ((k + 1 : Nat) : Int)) E rfl rfl (by omega) (by omega)) rfl ?_
      clear E a; intro a E
      refine S_v E rfl (R_move E rfl) rfl ?_
      clear E a; intro a E
      refine WL_nil ?_
      refine T_n ?_
      exact ⟨k + 1, ⟨M_1, hM_1, S, E.keep ⟨rfl, rfl, rfl, rfl, trivial⟩, by ((try clear S); (try clear E); first | assumption | omega | rfl | (simp; done) | (simp_all; done) | (simp [List.take_add_one, *]; done) | grind [List.take_add_one]), (by exact brf_step (by assumption) (by omega) (by assumption))⟩, by omega⟩
  · replace hc_2 := of_decide_eq_false hc_2
    refine WP_exit ?_
    refine T_x ?_
    refine T_x ?_
    refine B_x ?_
    refine T_n ?_
    refine WP_seq ?_
    refine WP_region ?_
    refine S_v E rfl (R_move E rfl) rfl ?_
    clear E a; intro a E
    refine S_v E rfl (R_lenV E rfl T70 h0.len) rfl ?_
    clear E a; intro a E
    refine S_v E rfl (R_leq E rfl rfl) rfl ?_
    clear E a; intro a E
    refine S_v E rfl (R_assign E rfl) rfl ?_
    clear E a; intro a E
    refine WL_nil ?_
    refine T_n ?_
    refine WP_ret ?_
    exact F_ret1 E Try.results60 rfl ⟨_, rfl, M_1, hM_1, (congrArg Value.bool (by (rw [List.take_of_length_le (by omega)] at hL0_1; rw [decide_eq_decide]; constructor <;> intro h9 <;> first | exact ⟨hL0_1, by omega⟩ | omega))), S⟩

set_option maxRecDepth 100000 in
set_option maxHeartbeats 4000000 in
theorem laws_eqPairs {M : Hp} {v0 : Value} {l0 : List (Int × Int)} (h0 : RdS 2 RP2 M v0 l0) {v1 : Value} {l1 : List (Int × Int)} (h1 : RdS 2 RP2 M v1 l1) :
    Pu Try.prog (.func (.func 26) #[] #[]) M [v0, v1] (fun r M' => r = .bool (decide (l0 = l1))) := by
  refine Pu_enter Try.func26 rfl Try.ntmps26 rfl Try.call26 ?_
  intro a w M1 H hM1 S E
  replace h0 := h0.le RP2_mono hM1
  replace h1 := h1.le RP2_mono hM1
  have b0 := h0.bound
  have b1 := h1.bound
  refine WP_seq ?_
  refine WP_region ?_
  refine S_v E rfl (R_assign E rfl) rfl ?_
  clear E a; intro a E
  refine WL_nil ?_
  refine T_n ?_
  refine WP_seq ?_
  refine WP_seq ?_
  refine WP_region ?_
  refine S_v E rfl (R_move E rfl) rfl ?_
  clear E a; intro a E
  refine S_v E rfl (R_lenV E rfl T33 h0.len) rfl ?_
  clear E a; intro a E
  refine S_v E rfl (R_move E rfl) rfl ?_
  clear E a; intro a E
  refine S_v E rfl (R_lenV E rfl T33 h1.len) rfl ?_
  clear E a; intro a E
  refine S_v E rfl (R_neq E rfl rfl) rfl ?_
  clear E a; intro a E
  refine WL_nil ?_
  refine T_n ?_
  refine WP_cond E rfl (fun hc_1 => ?_) (fun hc_1 => ?_)
  · replace hc_1 := of_decide_eq_true hc_1
    refine WP_seq ?_
    refine WP_region ?_
    refine S_v E rfl (R_assign E rfl) rfl ?_
    clear E a; intro a E
    refine WL_nil ?_
    refine T_n ?_
    refine WP_ret ?_
    refine T_r ?_
    exact F_ret1 E Try.results26 rfl ⟨_, rfl, M1, (Hp.le.refl _), (bF (by (first | (simp; done) | exact eqp_no (by assumption) (by assumption) (p2_ne (by assumption)) | (have h9 : l0.take k = l1.take k := (by assumption); rwa [List.take_of_length_le (by omega), List.take_of_length_le (by omega)] at h9) | (intro h9; subst h9; omega) | (intro h9; subst h9; simp_all; done)))), S⟩
  · replace hc_1 := of_decide_eq_false hc_1
    refine WP_skip ?_
    refine T_n ?_
    refine WP_seq ?_
    refine WP_seq ?_
    refine WP_region ?_
    refine S_v E rfl (R_move E rfl) rfl ?_
    clear E a; intro a E
    refine S_v E rfl (R_lenV E rfl T33 h0.len) rfl ?_
    clear E a; intro a E
    refine S_v E rfl (R_move E rfl) rfl ?_
    clear E a; intro a E
    refine WL_nil ?_
    refine T_n ?_
    refine WP_block ?_
    refine WP_loop (γ := Nat) (fun (k : Nat) a w => ∃ (M_2 : Hp), Hp.le M1 M_2 ∧ St w M_2 (H) ∧ Env a 26 [] [(0, v0), (1, v1), (12, .int .i64 (((l0).length : Nat) : Int)), (13, .int .i64 ((k : Nat) : Int))] ∧ (k ≤ (l0).length) ∧ (l0.length = l1.length) ∧ (l0.take k = l1.take k)) (fun k => ((l0).length) - k) 0 ⟨M1, Hp.le.refl _, S, E.keep ⟨rfl, rfl, rfl, rfl, trivial⟩, by ((try clear S); (try clear E); first | assumption | omega | rfl | (simp; done) | (simp_all; done) | (simp [List.take_add_one, *]; done) | grind [List.take_add_one]), by ((try clear S); (try clear E); first | assumption | omega | rfl | (simp; done) | (simp_all; done) | (simp [List.take_add_one, *]; done) | grind [List.take_add_one]), by ((try clear S); (try clear E); first | assumption | omega | rfl | (simp; done) | (simp_all; done) | (simp [List.take_add_one, *]; done) | grind [List.take_add_one])⟩ ?_
    try clear E
    try clear S
    try clear a
    try clear w
    rintro k a w ⟨M_2, hM_2, S, E, hL0_0, hL0_1, hL0_2⟩
    replace h0 := h0.le RP2_mono hM_2
    replace h1 := h1.le RP2_mono hM_2
    refine WP_seq ?_
    refine WP_region ?_
    refine S_v E rfl (R_lss E rfl rfl) rfl ?_
    clear E a; intro a E
    refine WL_nil ?_
    refine T_n ?_
    refine WP_seq ?_
    refine WP_cond E rfl (fun hc_3 => ?_) (fun hc_3 => ?_)
    · replace hc_3 := of_decide_eq_true hc_3
      refine WP_skip ?_
      refine T_n ?_
      refine WP_seq ?_
      refine WP_block ?_
      refine WP_seq ?_
      refine WP_region ?_
      refine S_v E rfl (R_move E rfl) rfl ?_
      clear E a; intro a E
      refine S_v E rfl (R_assign E rfl) rfl ?_
      clear E a; intro a E
      refine WL_nil ?_
      refine T_n ?_
      refine WP_seq ?_
      replace S := S.mono_heap (w' := World.drew _) rfl
      refine WP_drawn (C := fun x w => agree M_2 w) (bf := (fun i => [])) [0, 1, 2, 3, 4, 5, 6, 7, 8] [0, 1, 2, 3, 4, 5, 6, 7, 8] Try.mixed (by kernel_rfl) (fun x hq => S.imm) ?_
      refine D_v E rfl rfl rfl (fun w hC => (R_move E rfl)) ?_
      clear E a; intro a E
      refine D_v E rfl rfl rfl (fun w hC => (R_move E rfl)) ?_
      clear E a; intro a E
      obtain ⟨x_4, hx_4⟩ : ∃ x, (l0)[k]? = some x := ⟨_, List.getElem?_eq_getElem (by first | omega | (simp; done) | (simp; omega) | (simp_all; omega))⟩
      obtain ⟨p_5, hp_5, qp_5⟩ := RdP2.at h0 hx_4
      refine D_v E rfl rfl rfl (fun w hC => (R_idx E rfl rfl T33 hp_5 rfl)) ?_
      clear E a; intro a E
      refine D_v E rfl rfl rfl (fun w hC => (R_loadA (cs := [.int .i64 x_4.1, .int .i64 x_4.2]) E rfl (Try.isAgg59 _) (Try.sizeOf59 _) hC qp_5)) ?_
      clear E a; intro a E
      refine D_v E rfl rfl rfl (fun w hC => (R_move E rfl)) ?_
      clear E a; intro a E
      refine D_v E rfl rfl rfl (fun w hC => (R_move E rfl)) ?_
      clear E a; intro a E
      obtain ⟨x_6, hx_6⟩ : ∃ x, (l1)[k]? = some x := ⟨_, List.getElem?_eq_getElem (by first | omega | (simp; done) | (simp; omega) | (simp_all; omega))⟩
      obtain ⟨p_7, hp_7, qp_7⟩ := RdP2.at h1 hx_6
      refine D_v E rfl rfl rfl (fun w hC => (R_idx E rfl rfl T33 hp_7 rfl)) ?_
      clear E a; intro a E
      refine D_v E rfl rfl rfl (fun w hC => (R_loadA (cs := [.int .i64 x_6.1, .int .i64 x_6.2]) E rfl (Try.isAgg59 _) (Try.sizeOf59 _) hC qp_7)) ?_
      clear E a; intro a E
      refine D_v E rfl rfl rfl (fun w hC => (R_neqA E rfl rfl (by kernel_rfl) (EQ59 x_4.1 x_4.2 x_6.1 x_6.2 _))) ?_
      clear E a; intro a E
      refine D_end (NoP_n ?_)
      refine T_n ?_
      refine WP_cond E rfl (fun hc_8 => ?_) (fun hc_8 => ?_)
      · replace hc_8 := of_decide_eq_true hc_8
        refine WP_seq ?_
        refine WP_region ?_
        refine S_v E rfl (R_assign E rfl) rfl ?_
        clear E a; intro a E
        refine WL_nil ?_
        refine T_n ?_
        refine WP_ret ?_
        refine B_r ?_
        refine T_r ?_
        refine T_r ?_
        refine B_r ?_
        refine T_r ?_
        exact F_ret1 E Try.results26 rfl ⟨_, rfl, M_2, hM_2, (bF (by (first | (simp; done) | exact eqp_no (by assumption) (by assumption) (p2_ne (by assumption)) | (have h9 : l0.take k = l1.take k := (by assumption); rwa [List.take_of_length_le (by omega), List.take_of_length_le (by omega)] at h9) | (intro h9; subst h9; omega) | (intro h9; subst h9; simp_all; done)))), S⟩
      · replace hc_8 := of_decide_eq_false hc_8
        refine WP_skip ?_
        refine B_n ?_
        refine T_n ?_
        refine WP_region ?_
        refine S_v E rfl (R_addx (m := ((k + 1 : Nat) : Int)) E rfl rfl (by omega) (by omega)) rfl ?_
        clear E a; intro a E
        refine S_v E rfl (R_move E rfl) rfl ?_
        clear E a; intro a E
        refine WL_nil ?_
        refine T_n ?_
        exact ⟨k + 1, ⟨M_2, hM_2, S, E.keep ⟨rfl, rfl, rfl, rfl, trivial⟩, by ((try clear S); (try clear E); first | assumption | omega | rfl | (simp; done) | (simp_all; done) | (simp [List.take_add_one, *]; done) | grind [List.take_add_one]), by ((try clear S); (try clear E); first | assumption | omega | rfl | (simp; done) | (simp_all; done) | (simp [List.take_add_one, *]; done) | grind [List.take_add_one]), (by exact eqp_step (by assumption) (by assumption) (by assumption) (p2_eq (by first | assumption | exact Decidable.not_not.1 (by assumption))))⟩, by omega⟩
    · replace hc_3 := of_decide_eq_false hc_3
      refine WP_exit ?_
      refine T_x ?_
      refine T_x ?_
      refine B_x ?_
      refine T_n ?_
      refine WP_seq ?_
      refine WP_region ?_
      refine S_v E rfl (R_assign E rfl) rfl ?_
      clear E a; intro a E
      refine WL_nil ?_
      refine T_n ?_
      refine WP_ret ?_
      exact F_ret1 E Try.results26 rfl ⟨_, rfl, M_2, hM_2, (bT (by (first | (simp; done) | exact eqp_no (by assumption) (by assumption) (p2_ne (by assumption)) | (have h9 : l0.take k = l1.take k := (by assumption); rwa [List.take_of_length_le (by omega), List.take_of_length_le (by omega)] at h9) | (intro h9; subst h9; omega) | (intro h9; subst h9; simp_all; done)))), S⟩

set_option maxRecDepth 100000 in
set_option maxHeartbeats 4000000 in
theorem lo_Entries {M : Hp} {m0 : Value} {q0 : List (Int × Int)} (hm0 : RdM M m0 (encE (Value.int .i64) q0)) (hb : q0.length ≤ 1000000000000) :
    Pu Try.prog (.func (.func 134) #[] #[]) M [m0] (fun r M' => ∃ p_, RdS 2 RP2 M' r p_ ∧ p_.Perm q0) := by
  refine Pu_enter Try.func134 rfl Try.ntmps134 rfl Try.call134 ?_
  intro a w M1 H hM1 S E
  replace hm0 := hm0.le hM1
  refine WP_seq ?_
  refine WP_region ?_
  refine S_v E rfl (R_assign E rfl) rfl ?_
  clear E a; intro a E
  refine WL_nil ?_
  refine T_n ?_
  refine WP_seq ?_
  refine WP_region ?_
  refine S_v E rfl (R_move E rfl) rfl ?_
  clear E a; intro a E
  refine S_v E rfl ((R_lenF S.imm hm0 E MT103 rfl).trans (by rw [encE_len])) rfl ?_
  clear E a; intro a E
  refine S_x (X_make0 (k := (q0).length) E S rfl rfl rfl T130 rfl (by omega) (by omega) (by omega) ?_)
  clear E a S; rintro a w v_1 E S
  have hr_2 : RowsR RP2 2 M1 ([] : List (Int × Int)) [] := RowsR.nil
  replace S : St w M1 (OwnC 156 2 v_1 ([] : List (Int × Int)).length [] :: _) := S
  refine S_v E rfl (R_assign E rfl) rfl ?_
  clear E a; intro a E
  refine WL_nil ?_
  refine T_n ?_
  refine WP_seq ?_
  refine WP_seq ?_
  refine WP_region ?_
  refine S_v E rfl (R_move E rfl) rfl ?_
  clear E a; intro a E
  refine S_x (X_range E S rfl MT103 hm0 rfl ?_)
  clear E a S; rintro a w i_3 es_4 ck_5 E hf_6 S
  replace S : St w M1 (ItO m0 es_4 ck_5 i_3 (encE (Value.int .i64) ([] : List (Int × Int))) :: _) := S
  refine WL_nil ?_
  refine T_n ?_
  refine WP_block ?_
  replace S := S.front1
  replace S := S.front1
  replace S := S.front1
  have hre : ([] : List (Int × Int)) = [] := by first | rfl | (simp; done) | exact putA_ap2 _ _ _ _
  replace S := S.reR hre
  replace hr_2 := hr_2.eq hre
  clear hre
  replace S := S.front1
  replace S := S.reIt (p' := (encE (Value.int .i64) [])) (congrArg (encE (Value.int .i64)) (show ([] : List (Int × Int)) = [] by first | rfl | (simp; done) | exact putA_ap2 _ _ _ _))
  refine WP_loop (γ := List (Int × Int)) (fun (p : List (Int × Int)) a w => ∃ (M_7 : Hp) (u3 : Value) (xs3 : List Value), Hp.le M1 M_7 ∧ St w M_7 (ItO m0 es_4 ck_5 i_3 (encE (Value.int .i64) p) :: OwnC 156 2 u3 p.length xs3 :: H) ∧ Env a 23 [] [(3, u3), (10, .pointer (some ⟨i_3, 0, none⟩))] ∧ ((p.map Prod.fst).Nodup) ∧ (∀ z ∈ p, z ∈ q0) ∧ (p.length ≤ q0.length) ∧ RowsR RP2 2 M_7 p xs3) (fun p => q0.length - p.length) [] ⟨M1, _, _, Hp.le.refl _, S, E.keep ⟨rfl, rfl, trivial⟩, (by simp), (by simp), (by simp), hr_2⟩ ?_
  try clear E
  try clear S
  try clear a
  try clear w
  rintro p a w ⟨M_7, u3, xs3, hM_7, S, E, hL0_0, hL0_1, hL0_2, hr3⟩
  replace hm0 := hm0.le hM_7
  replace hf_6 := hf_6.le hM_7
  refine WP_seq ?_
  refine WP_region ?_
  refine S_x (X_nextE (vf := (Value.int .i64)) E S rfl hf_6 rfl (by assumption) (by assumption) ?_ ?_)
  · clear E a S; rintro a E hpm_8 S
    refine S_v E rfl (R_extract E rfl rfl) rfl ?_
    clear E a; intro a E
    refine WL_nil ?_
    refine T_n ?_
    refine WP_seq ?_
    refine WP_condF E rfl rfl ?_
    refine WP_exit ?_
    refine T_x ?_
    refine T_x ?_
    refine B_x ?_
    refine T_n ?_
    refine WP_seq ?_
    refine WP_region ?_
    refine S_v E rfl (R_move E rfl) rfl ?_
    clear E a; intro a E
    refine S_v E rfl (R_assign E rfl) rfl ?_
    clear E a; intro a E
    refine WL_nil ?_
    refine T_n ?_
    refine WP_ret ?_
    replace S := S.front1
    have S0 := S; clear S
    obtain ⟨M_9, hM_9, hz_10, S⟩ := S0.freezeR hr3 RP2_mono (by (first | omega | (simp; omega)))
    clear S0
    replace hm0 := hm0.le hM_9
    replace hf_6 := hf_6.le hM_9
    exact F_ret1 E Try.results134 rfl ⟨_, rfl, M_9, (hM_7.trans hM_9), ⟨_, hz_10, by (first | assumption | exact List.Perm.symm (by assumption))⟩, S.drop⟩
  · clear E a S w; rintro a w k_11 u_13 E hk_12 hk_12n hk_12l S
    refine S_v E rfl (R_extract E rfl rfl) rfl ?_
    clear E a; intro a E
    refine WL_nil ?_
    refine T_n ?_
    refine WP_seq ?_
    refine WP_condT E rfl rfl ?_
    refine WP_skip ?_
    refine T_n ?_
    refine WP_block ?_
    refine WP_seq ?_
    refine WP_region ?_
    refine S_v E rfl (R_entry (k := k_11) (v := .int .i64 u_13) E (by have S1 := S; simp only [encE, List.map_append, List.map_cons, List.map_nil] at S1; exact S1) hf_6 rfl) rfl ?_
    clear E a; intro a E
    refine S_v E rfl (R_extract E rfl rfl) rfl ?_
    clear E a; intro a E
    refine S_v E rfl (R_extract E rfl rfl) rfl ?_
    clear E a; intro a E
    refine S_v E rfl (R_assign E rfl) rfl ?_
    clear E a; intro a E
    refine S_v E rfl (R_assign E rfl) rfl ?_
    clear E a; intro a E
    refine WL_nil ?_
    refine T_n ?_
    refine WP_region ?_
    refine S_v E rfl (R_move E rfl) rfl ?_
    clear E a; intro a E
    refine S_v E rfl (R_move E rfl) rfl ?_
    clear E a; intro a E
    refine S_v E rfl (R_move E rfl) rfl ?_
    clear E a; intro a E
    refine S_v E rfl (R_build (u := .agg #[.int .i64 k_11, .int .i64 u_13]) (vs := [.int .i64 k_11, .int .i64 u_13]) E rfl (fun w => FB156_0_1_ii k_11 u_13 w)) rfl ?_
    clear E a; intro a E
    refine S_x (X_buildA1 (R := RP2) (cs := [.int .i64 k_11, .int .i64 u_13]) (x0 := (k_11, u_13)) RP2_mono E S rfl T130 rfl rfl rfl rfl ?_)
    clear E a S; rintro a v_14 w M_15 hM_15 hv_14 S E
    replace hm0 := hm0.le hM_15
    replace hf_6 := hf_6.le hM_15
    replace hr3 := hr3.le RP2_mono hM_15
    replace S := S.front1
    refine S_x (X_appendR (R := RP2) (zs := p) (ys := [(k_11, u_13)]) E S hr3 rfl rfl rfl T130 hv_14 one_RP2 (by first | omega | (simp; done) | (simp; omega) | (simp_all; omega)) (by first | omega | (simp; done) | (simp; omega) | (simp_all; omega)) ?_)
    clear E a S; rintro a w v_16 xs_17 E hr_18 S
    refine S_v E rfl (R_assign E rfl) rfl ?_
    clear E a; intro a E
    refine WL_nil ?_
    refine B_n ?_
    refine T_n ?_
    replace S := S.front1
    replace S := S.front1
    have hre : p ++ [(k_11, u_13)] = (p ++ [(k_11, u_13)]) := by first | rfl | (simp; done) | exact putA_ap2 _ _ _ _
    replace S := S.reR hre
    replace hr_18 := hr_18.eq hre
    clear hre
    replace S := S.front1
    replace S := S.reIt (p' := (encE (Value.int .i64) (p ++ [(k_11, u_13)]))) (congrArg (encE (Value.int .i64)) (show p ++ [(k_11, u_13)] = (p ++ [(k_11, u_13)]) by first | rfl | (simp; done) | exact putA_ap2 _ _ _ _))
    exact ⟨(p ++ [(k_11, u_13)]), ⟨M_15, _, _, (hM_7.trans hM_15), S, E.keep ⟨rfl, rfl, trivial⟩, (by exact snocNk (by assumption) (by assumption)), (by exact snocSk (by assumption) (by assumption)), (by simp; omega), hr_18⟩, (by simp; omega)⟩

set_option maxRecDepth 100000 in
set_option maxHeartbeats 4000000 in
theorem lo_FromEntries {M : Hp} {v0 : Value} {l0 : List (Int × Int)} (h0 : RdS 2 RP2 M v0 l0) :
    Pu Try.prog (.func (.func 133) #[] #[]) M [v0] (fun r M' => RdM M' r (encE (Value.int .i64) (mkE l0))) := by
  refine Pu_enter Try.func133 rfl Try.ntmps133 rfl Try.call133 ?_
  intro a w M1 H hM1 S E
  replace h0 := h0.le RP2_mono hM1
  have b0 := h0.bound
  refine WP_seq ?_
  refine WP_region ?_
  refine S_v E rfl (R_assign E rfl) rfl ?_
  clear E a; intro a E
  refine WL_nil ?_
  refine T_n ?_
  refine WP_seq ?_
  refine WP_region ?_
  refine S_v E rfl (R_move E rfl) rfl ?_
  clear E a; intro a E
  refine S_v E rfl (R_lenV E rfl T130 h0.len) rfl ?_
  clear E a; intro a E
  refine S_x (X_makeMapR E S rfl MT103 rfl ?_)
  clear E a S; rintro a w b_1 E S
  replace S : St w M1 (OwnE (Value.int .i64) b_1 ([] : List (Int × Int)) :: _) := S
  refine S_v E rfl (R_assign E rfl) rfl ?_
  clear E a; intro a E
  refine WL_nil ?_
  refine T_n ?_
  refine WP_seq ?_
  refine WP_seq ?_
  refine WP_region ?_
  refine S_v E rfl (R_move E rfl) rfl ?_
  clear E a; intro a E
  refine S_v E rfl (R_lenV E rfl T130 h0.len) rfl ?_
  clear E a; intro a E
  refine S_v E rfl (R_move E rfl) rfl ?_
  clear E a; intro a E
  refine WL_nil ?_
  refine T_n ?_
  refine WP_block ?_
  replace S := S.reM (L' := (encE (Value.int .i64) (mkE (l0.take 0)))) (congrArg (encE (Value.int .i64)) (show ([] : List (Int × Int)) = mkE (l0.take 0) by first | rfl | (simp [mkE]; done) | (rw [tk_snoc (by assumption), mkE_app]; done)))
  refine WP_loop (γ := Nat) (fun (k : Nat) a w => ∃ (M_2 : Hp), Hp.le M1 M_2 ∧ St w M_2 (OwnE (Value.int .i64) b_1 (mkE (l0.take k)) :: H) ∧ Env a 26 [] [(0, v0), (3, .map (some b_1)), (9, .int .i64 (((l0).length : Nat) : Int)), (10, .int .i64 ((k : Nat) : Int))] ∧ (k ≤ (l0).length)) (fun k => ((l0).length) - k) 0 ⟨M1, Hp.le.refl _, S, E.keep ⟨rfl, rfl, rfl, rfl, trivial⟩, by ((try clear S); (try clear E); first | assumption | omega | rfl | (simp; done) | (simp_all; done) | (simp [List.take_add_one, *]; done) | grind [List.take_add_one])⟩ ?_
  try clear E
  try clear S
  try clear a
  try clear w
  rintro k a w ⟨M_2, hM_2, S, E, hL0_0⟩
  replace h0 := h0.le RP2_mono hM_2
  refine WP_seq ?_
  refine WP_region ?_
  refine S_v E rfl (R_lss E rfl rfl) rfl ?_
  clear E a; intro a E
  refine WL_nil ?_
  refine T_n ?_
  refine WP_seq ?_
  refine WP_cond E rfl (fun hc_3 => ?_) (fun hc_3 => ?_)
  · replace hc_3 := of_decide_eq_true hc_3
    refine WP_skip ?_
    refine T_n ?_
    refine WP_seq ?_
    refine WP_block ?_
    refine WP_seq ?_
    refine WP_region ?_
    refine S_v E rfl (R_move E rfl) rfl ?_
    clear E a; intro a E
    refine S_v E rfl (R_assign E rfl) rfl ?_
    clear E a; intro a E
    refine WL_nil ?_
    refine T_n ?_
    replace S := S.mono_heap (w' := World.drew _) rfl
    refine WP_drawn (C := fun x w => agree M_2 w) (bf := (fun i => [])) [0, 1, 2, 3, 4, 5, 6, 7, 8, 9, 10] [0, 1, 2, 3, 4, 5, 6, 7, 8, 9, 10, 11] Try.mixed (by kernel_rfl) (fun x hq => S.imm) ?_
    refine D_v E rfl rfl rfl (fun w hC => (R_move E rfl)) ?_
    clear E a; intro a E
    refine D_v E rfl rfl rfl (fun w hC => (R_move E rfl)) ?_
    clear E a; intro a E
    refine D_v E rfl rfl rfl (fun w hC => (R_move E rfl)) ?_
    clear E a; intro a E
    obtain ⟨x_4, hx_4⟩ : ∃ x, (l0)[k]? = some x := ⟨_, List.getElem?_eq_getElem (by first | omega | (simp; done) | (simp; omega) | (simp_all; omega))⟩
    obtain ⟨p_5, hp_5, qp_5⟩ := RdP2.at h0 hx_4
    refine D_v E rfl rfl rfl (fun w hC => (R_idx E rfl rfl T130 hp_5 rfl)) ?_
    clear E a; intro a E
    have qf_6 := qp_5 0 _ rfl
    refine D_v E rfl rfl rfl (fun w hC => (R_fieldAddr E rfl (FA156_0 _))) ?_
    clear E a; intro a E
    refine D_v E rfl rfl rfl (fun w hC => (R_loadM E rfl Try.isAgg3 hC qf_6)) ?_
    clear E a; intro a E
    refine D_v E rfl rfl rfl (fun w hC => (R_move E rfl)) ?_
    clear E a; intro a E
    refine D_v E rfl rfl rfl (fun w hC => (R_move E rfl)) ?_
    clear E a; intro a E
    obtain ⟨p_7, hp_7, qp_7⟩ := RdP2.at h0 hx_4
    refine D_v E rfl rfl rfl (fun w hC => (R_idx E rfl rfl T130 hp_7 rfl)) ?_
    clear E a; intro a E
    have qf_8 := qp_7 1 _ rfl
    refine D_v E rfl rfl rfl (fun w hC => (R_fieldAddr E rfl (FA156_1 _))) ?_
    clear E a; intro a E
    refine D_v E rfl rfl rfl (fun w hC => (R_loadM E rfl Try.isAgg3 hC qf_8)) ?_
    clear E a; intro a E
    refine D_x rfl rfl rfl (X_updateE (vf := (Value.int .i64)) (u := x_4.2) E S MT103 rfl rfl rfl ?_)
    clear E a S; rintro a w E S
    refine ⟨fun x hq hb => (agree_le (Hp.le.refl _) S.imm), ?_⟩
    refine D_end (NoP_n ?_)
    refine B_n ?_
    refine T_n ?_
    refine WP_region ?_
    refine S_v E rfl (R_addx (m := ((k + 1 : Nat) : Int)) E rfl rfl (by omega) (by omega)) rfl ?_
    clear E a; intro a E
    refine S_v E rfl (R_move E rfl) rfl ?_
    clear E a; intro a E
    refine WL_nil ?_
    refine T_n ?_
    replace S := S.reM (L' := (encE (Value.int .i64) (mkE (l0.take (k + 1))))) (congrArg (encE (Value.int .i64)) (show putK (mkE (l0.take k)) x_4.1 x_4.2 = mkE (l0.take (k + 1)) by first | rfl | (simp [mkE]; done) | (rw [tk_snoc (by assumption), mkE_app]; done)))
    exact ⟨k + 1, ⟨M_2, hM_2, S, E.keep ⟨rfl, rfl, rfl, rfl, trivial⟩, by ((try clear S); (try clear E); first | assumption | omega | rfl | (simp; done) | (simp_all; done) | (simp [List.take_add_one, *]; done) | grind [List.take_add_one])⟩, by omega⟩
  · replace hc_3 := of_decide_eq_false hc_3
    refine WP_exit ?_
    refine T_x ?_
    refine T_x ?_
    refine B_x ?_
    refine T_n ?_
    refine WP_seq ?_
    refine WP_region ?_
    refine S_v E rfl (R_move E rfl) rfl ?_
    clear E a; intro a E
    refine S_v E rfl (R_assign E rfl) rfl ?_
    clear E a; intro a E
    refine WL_nil ?_
    refine T_n ?_
    refine WP_ret ?_
    have S0 := S; clear S
    obtain ⟨M_9, hM_9, hm_10, S⟩ := S0.freezeM
    clear S0
    replace h0 := h0.le RP2_mono hM_9
    exact F_ret1 E Try.results133 rfl ⟨_, rfl, M_9, (hM_2.trans hM_9), (by rw [show (mkE l0) = (mkE (l0.take k)) from by (rw [List.take_of_length_le (by omega)])]; exact hm_10), S⟩

set_option maxRecDepth 100000 in
set_option maxHeartbeats 4000000 in
theorem impl_Entries {M : Hp} {v0 : Value} {l0 : List (Int × Int)} (h0 : RdS 2 RP2 M v0 l0) (hb : l0.length ≤ 1000000000000) :
    Pu Try.prog (.func (.func 61) #[] #[]) M [v0] (fun r M' => RdS 2 RP2 M' r (entE l0)) := by
  refine Pu_enter Try.func61 rfl Try.ntmps61 rfl Try.call61 ?_
  intro a w M1 H hM1 S E
  replace h0 := h0.le RP2_mono hM1
  have b0 := h0.bound
  refine WP_seq ?_
  refine WP_region ?_
  refine S_v E rfl (R_assign E rfl) rfl ?_
  clear E a; intro a E
  refine WL_nil ?_
  refine T_n ?_
  refine WP_seq ?_
  refine WP_region ?_
  refine S_v E rfl (R_move E rfl) rfl ?_
  clear E a; intro a E
  refine S_x (X_pu E S rfl rfl rfl (impl_mapOf h0) (Hp.le.refl _) ?_)
  clear E a S; rintro a v_2 w M_1 hM_1 hv_2 S E
  replace h0 := h0.le RP2_mono hM_1
  refine S_x (X_pu E S rfl rfl rfl (lo_Entries hv_2 (by first | omega | exact Nat.le_trans (mkE_len _) (by omega))) (Hp.le.refl _) ?_)
  clear E a S; rintro a v_4 w M_3 hM_3 ⟨q_5, hv_4, hpq_5⟩ S E
  replace h0 := h0.le RP2_mono hM_3
  replace hv_2 := hv_2.le hM_3
  refine S_x (X_pu E S rfl rfl rfl (lo_FromEntries hv_4) (Hp.le.refl _) ?_)
  clear E a S; rintro a v_7 w M_6 hM_6 hv_7 S E
  replace h0 := h0.le RP2_mono hM_6
  replace hv_2 := hv_2.le hM_6
  replace hv_4 := hv_4.le RP2_mono hM_6
  refine S_x (X_pu E S rfl rfl rfl (impl_pairs hv_7 (by first | omega | (exact bigE _ l0 (by first | (rw [ixm_len]; exact Nat.le_refl _) | exact kpix_len _ _ _ | (rw [List.length_map]; exact Nat.le_refl _)) (by omega)) | exact Nat.le_trans (mkE_len _) (by omega) | (exact Nat.le_trans (lk_len (by assumption) (by assumption)) (by first | omega | exact Nat.le_trans (fl_mk _ _) (by omega))) | exact Nat.le_trans (mk_perm_len (by assumption)) (by omega) | (first | omega | (simp; omega) | (simp; done) | (simp_all; omega) | grind))) (Hp.le.refl _) ?_)
  clear E a S; rintro a v_9 w M_8 hM_8 hv_9 S E
  replace h0 := h0.le RP2_mono hM_8
  replace hv_2 := hv_2.le hM_8
  replace hv_4 := hv_4.le RP2_mono hM_8
  replace hv_7 := hv_7.le hM_8
  refine S_v E rfl (R_assign E rfl) rfl ?_
  clear E a; intro a E
  refine WL_nil ?_
  refine T_n ?_
  refine WP_ret ?_
  exact F_ret1 E Try.results61 rfl ⟨_, rfl, M_8, (hM_1.trans (hM_3.trans (hM_6.trans hM_8))), (by rw [show (entE l0) = (srtK Prod.fst (mkE q_5)) from by (exact ent_back (by assumption))]; exact hv_9), S⟩

set_option maxRecDepth 100000 in
set_option maxHeartbeats 4000000 in
theorem lo_ValueOr {M : Hp} {m0 : Value} {q0 : List (Int × Int)} (hm0 : RdM M m0 (encE (Value.int .i64) q0)) {x1 x2 : Int} :
    Pu Try.prog (.func (.func 135) #[] #[]) M [m0, .int .i64 x1, .int .i64 x2] (fun r M' => r = .int .i64 ((lkE q0 x1).getD x2)) := by
  refine Pu_enter Try.func135 rfl Try.ntmps135 rfl Try.call135 ?_
  intro a w M1 H hM1 S E
  replace hm0 := hm0.le hM1
  refine WP_seq ?_
  refine WP_region ?_
  refine S_v E rfl (R_assign E rfl) rfl ?_
  clear E a; intro a E
  refine WL_nil ?_
  refine T_n ?_
  refine WP_seq ?_
  refine WP_seq ?_
  refine WP_region ?_
  refine S_v E rfl (R_move E rfl) rfl ?_
  clear E a; intro a E
  refine S_v E rfl (R_move E rfl) rfl ?_
  clear E a; intro a E
  refine S_v E rfl (R_lookupFE (vf := (Value.int .i64)) (zb := (0 : Int)) S.imm hm0 E MT103 rfl rfl) rfl ?_
  clear E a; intro a E
  refine S_v E rfl (R_move E rfl) rfl ?_
  clear E a; intro a E
  refine S_v E rfl (R_extract E rfl rfl) rfl ?_
  clear E a; intro a E
  refine S_v E rfl (R_extract E rfl rfl) rfl ?_
  clear E a; intro a E
  refine S_v E rfl (R_assign E rfl) rfl ?_
  clear E a; intro a E
  refine S_v E rfl (R_assign E rfl) rfl ?_
  clear E a; intro a E
  refine WL_nil ?_
  refine T_n ?_
  refine WP_seq ?_
  refine WP_region ?_
  refine S_v E rfl (R_move E rfl) rfl ?_
  clear E a; intro a E
  refine WL_nil ?_
  refine T_n ?_
  refine WP_cond E rfl (fun hc_1 => ?_) (fun hc_1 => ?_)
  · refine WP_seq ?_
    refine WP_region ?_
    refine S_v E rfl (R_move E rfl) rfl ?_
    clear E a; intro a E
    refine S_v E rfl (R_assign E rfl) rfl ?_
    clear E a; intro a E
    refine WL_nil ?_
    refine T_n ?_
    refine WP_ret ?_
    refine T_r ?_
    exact F_ret1 E Try.results135 rfl ⟨_, rfl, M1, (Hp.le.refl _), (congrArg (Value.int .i64) (by (first | exact vo_yes (by assumption) (by assumption) | exact vo_no (by assumption)))), S⟩
  · refine WP_skip ?_
    refine T_n ?_
    refine WP_seq ?_
    refine WP_region ?_
    refine S_v E rfl (R_move E rfl) rfl ?_
    clear E a; intro a E
    refine S_v E rfl (R_assign E rfl) rfl ?_
    clear E a; intro a E
    refine WL_nil ?_
    refine T_n ?_
    refine WP_ret ?_
    exact F_ret1 E Try.results135 rfl ⟨_, rfl, M1, (Hp.le.refl _), (congrArg (Value.int .i64) (by (first | exact vo_yes (by assumption) (by assumption) | exact vo_no (by assumption)))), S⟩

set_option maxRecDepth 100000 in
set_option maxHeartbeats 4000000 in
theorem impl_ValueOr {M : Hp} {v0 : Value} {l0 : List (Int × Int)} (h0 : RdS 2 RP2 M v0 l0) {x1 x2 : Int} :
    Pu Try.prog (.func (.func 62) #[] #[]) M [v0, .int .i64 x1, .int .i64 x2] (fun r M' => r = .int .i64 ((lkE l0 x1).getD x2)) := by
  refine Pu_enter Try.func62 rfl Try.ntmps62 rfl Try.call62 ?_
  intro a w M1 H hM1 S E
  replace h0 := h0.le RP2_mono hM1
  have b0 := h0.bound
  refine WP_seq ?_
  refine WP_region ?_
  refine S_v E rfl (R_assign E rfl) rfl ?_
  clear E a; intro a E
  refine WL_nil ?_
  refine T_n ?_
  refine WP_seq ?_
  refine WP_region ?_
  refine S_v E rfl (R_move E rfl) rfl ?_
  clear E a; intro a E
  refine S_x (X_pu E S rfl rfl rfl (impl_mapOf h0) (Hp.le.refl _) ?_)
  clear E a S; rintro a v_2 w M_1 hM_1 hv_2 S E
  replace h0 := h0.le RP2_mono hM_1
  refine S_v E rfl (R_move E rfl) rfl ?_
  clear E a; intro a E
  refine S_v E rfl (R_move E rfl) rfl ?_
  clear E a; intro a E
  refine S_x (X_pu E S rfl rfl rfl (lo_ValueOr hv_2) (Hp.le.refl _) ?_)
  clear E a S; rintro a _ w M_3 hM_3 rfl S E
  replace h0 := h0.le RP2_mono hM_3
  replace hv_2 := hv_2.le hM_3
  refine S_v E rfl (R_assign E rfl) rfl ?_
  clear E a; intro a E
  refine WL_nil ?_
  refine T_n ?_
  refine WP_ret ?_
  exact F_ret1 E Try.results62 rfl ⟨_, rfl, M_3, (hM_1.trans hM_3), (congrArg (Value.int .i64) (by (rw [lk_mkE]))), S⟩

set_option maxRecDepth 100000 in
set_option maxHeartbeats 4000000 in
theorem laws_pairs {M : Hp} {v0 : Value} {l0 : List (Int × Int)} (h0 : RdS 2 RP2 M v0 l0) (hb : l0.length ≤ 1000000000000) :
    Pu Try.prog (.func (.func 64) #[] #[]) M [v0] (fun r M' => RdS 2 RP2 M' r l0) := by
  refine Pu_enter Try.func64 rfl Try.ntmps64 rfl Try.call64 ?_
  intro a w M1 H hM1 S E
  replace h0 := h0.le RP2_mono hM1
  have b0 := h0.bound
  refine WP_seq ?_
  refine WP_region ?_
  refine S_v E rfl (R_assign E rfl) rfl ?_
  clear E a; intro a E
  refine WL_nil ?_
  refine T_n ?_
  refine WP_seq ?_
  refine WP_region ?_
  refine S_v E rfl (R_assign E rfl) rfl ?_
  clear E a; intro a E
  refine WL_nil ?_
  refine T_n ?_
  refine WP_seq ?_
  refine WP_seq ?_
  refine WP_region ?_
  refine S_v E rfl (R_move E rfl) rfl ?_
  clear E a; intro a E
  refine S_v E rfl (R_lenV E rfl T33 h0.len) rfl ?_
  clear E a; intro a E
  refine S_v E rfl (R_move E rfl) rfl ?_
  clear E a; intro a E
  refine WL_nil ?_
  refine T_n ?_
  refine WP_block ?_
  replace S : St w M1 (OwnC 119 2 (.slice none 0 0) ([] : List (Int × Int)).length [] :: _) := S.ownNil
  have hr_2 : RowsR RP2 2 M1 ([] : List (Int × Int)) [] := RowsR.nil
  have hre : ([] : List (Int × Int)) = l0.take 0 := by first | rfl | (simp; done) | exact (tk_snoc (by assumption)).symm
  replace S := S.reR hre
  replace hr_2 := hr_2.eq hre
  clear hre
  refine WP_loop (γ := Nat) (fun (k : Nat) a w => ∃ (M_3 : Hp) (u3 : Value) (xs3 : List Value), Hp.le M1 M_3 ∧ St w M_3 (OwnC 119 2 u3 (l0.take k).length xs3 :: H) ∧ Env a 18 [] [(3, u3), (6, v0), (7, .int .i64 (((l0).length : Nat) : Int)), (8, .int .i64 ((k : Nat) : Int))] ∧ (k ≤ (l0).length) ∧ RowsR RP2 2 M_3 (l0.take k) xs3) (fun k => ((l0).length) - k) 0 ⟨M1, _, _, Hp.le.refl _, S, E.keep ⟨rfl, rfl, rfl, rfl, trivial⟩, by ((try clear S); (try clear E); first | assumption | omega | rfl | (simp; done) | (simp_all; done) | (simp [List.take_add_one, *]; done) | grind [List.take_add_one]), hr_2⟩ ?_
  try clear E
  try clear S
  try clear a
  try clear w
  rintro k a w ⟨M_3, u3, xs3, hM_3, S, E, hL0_0, hr3⟩
  replace h0 := h0.le RP2_mono hM_3
  refine WP_seq ?_
  refine WP_region ?_
  refine S_v E rfl (R_lss E rfl rfl) rfl ?_
  clear E a; intro a E
  refine WL_nil ?_
  refine T_n ?_
  refine WP_seq ?_
  refine WP_cond E rfl (fun hc_4 => ?_) (fun hc_4 => ?_)
  · replace hc_4 := of_decide_eq_true hc_4
    refine WP_skip ?_
    refine T_n ?_
    refine WP_seq ?_
    refine WP_block ?_
    refine WP_seq ?_
    refine WP_region ?_
    obtain ⟨x_5, hx_5⟩ : ∃ x, (l0)[k]? = some x := ⟨_, List.getElem?_eq_getElem (by first | omega | (simp; done) | (simp; omega) | (simp_all; omega))⟩
    obtain ⟨p_6, hp_6, qp_6⟩ := RdP2.at h0 hx_5
    refine S_v E rfl (R_idx E rfl rfl T33 hp_6 rfl) rfl ?_
    clear E a; intro a E
    refine S_v E rfl (R_loadA (cs := [.int .i64 x_5.1, .int .i64 x_5.2]) E rfl (Try.isAgg59 _) (Try.sizeOf59 _) S.imm qp_6) rfl ?_
    clear E a; intro a E
    refine S_x (X_alloc (cs := #[.int .i64 0, .int .i64 0]) E S rfl Try.zeroValue59 rfl ?_)
    clear E a S; rintro a w b_7 E S
    refine S_x0 (X_storeG (us := [.int .i64 x_5.1, .int .i64 x_5.2]) E S rfl rfl (Try.sizeOf59 _) rfl (by intro u hu; simp only [List.mem_cons, List.not_mem_nil, or_false] at hu; rcases hu with rfl | rfl <;> first | exact rfl | exact rfl) ?_)
    clear E a S; rintro a w E S
    replace S : St w M_3 (blk b_7 (.cells #[.int .i64 x_5.1, .int .i64 x_5.2] 59) :: _) := S
    have S0 := S; clear S
    obtain ⟨M_8, hM_8, hb_9, S⟩ := S0.freezeB
    clear S0
    replace h0 := h0.le RP2_mono hM_8
    replace hr3 := hr3.le RP2_mono hM_8
    refine WL_nil ?_
    refine T_n ?_
    refine WP_region ?_
    refine S_v E rfl (R_move E rfl) rfl ?_
    clear E a; intro a E
    refine S_v E rfl (R_loadGM E rfl (Try.isAgg59 _) (Try.sizeOf59 _) S.imm hb_9) rfl ?_
    clear E a; intro a E
    refine S_x (X_buildA1 (R := RP2) (cs := [.int .i64 x_5.1, .int .i64 x_5.2]) (x0 := x_5) RP2_mono E S rfl T61 rfl rfl rfl rfl ?_)
    clear E a S; rintro a v_10 w M_11 hM_11 hv_10 S E
    replace h0 := h0.le RP2_mono hM_11
    replace hr3 := hr3.le RP2_mono hM_11
    replace hb_9 := hM_11.2 _ _ hb_9
    refine S_x (X_appendR (R := RP2) (zs := l0.take k) (ys := [x_5]) E S hr3 rfl rfl rfl T61 hv_10 one_RP2 (by first | omega | (simp; done) | (simp; omega) | (simp_all; omega)) (by first | omega | (simp; done) | (simp; omega) | (simp_all; omega)) ?_)
    clear E a S; rintro a w v_12 xs_13 E hr_14 S
    refine S_v E rfl (R_assign E rfl) rfl ?_
    clear E a; intro a E
    refine WL_nil ?_
    refine B_n ?_
    refine T_n ?_
    refine WP_region ?_
    refine S_v E rfl (R_addx (m := ((k + 1 : Nat) : Int)) E rfl rfl (by omega) (by omega)) rfl ?_
    clear E a; intro a E
    refine S_v E rfl (R_move E rfl) rfl ?_
    clear E a; intro a E
    refine WL_nil ?_
    refine T_n ?_
    have hre : (l0.take k) ++ [x_5] = l0.take (k + 1) := by first | rfl | (simp; done) | exact (tk_snoc (by assumption)).symm
    replace S := S.reR hre
    replace hr_14 := hr_14.eq hre
    clear hre
    exact ⟨k + 1, ⟨M_11, _, _, (hM_3.trans (hM_8.trans hM_11)), S, E.keep ⟨rfl, rfl, rfl, rfl, trivial⟩, by ((try clear S); (try clear E); first | assumption | omega | rfl | (simp; done) | (simp_all; done) | (simp [List.take_add_one, *]; done) | grind [List.take_add_one]), hr_14⟩, by omega⟩
  · replace hc_4 := of_decide_eq_false hc_4
    refine WP_exit ?_
    refine T_x ?_
    refine T_x ?_
    refine B_x ?_
    refine T_n ?_
    refine WP_seq ?_
    refine WP_region ?_
    refine S_v E rfl (R_move E rfl) rfl ?_
    clear E a; intro a E
    refine S_v E rfl (R_assign E rfl) rfl ?_
    clear E a; intro a E
    refine WL_nil ?_
    refine T_n ?_
    refine WP_ret ?_
    have S0 := S; clear S
    obtain ⟨M_15, hM_15, hz_16, S⟩ := S0.freezeR hr3 RP2_mono (by (first | omega | (simp; omega)))
    clear S0
    replace h0 := h0.le RP2_mono hM_15
    exact F_ret1 E Try.results64 rfl ⟨_, rfl, M_15, (hM_3.trans hM_15), (by rw [show l0 = (l0.take k) from by (rw [List.take_of_length_le (by omega)])]; exact hz_16), S⟩

set_option maxRecDepth 100000 in
set_option maxHeartbeats 4000000 in
theorem spec_Entries {M : Hp} {v0 : Value} {l0 : List (Int × Int)} (h0 : RdS 2 RP2 M v0 l0) (hb : l0.length ≤ 1000000000000) :
    Pu Try.prog (.func (.func 120) #[] #[]) M [v0] (fun r M' => RdS 2 RP2 M' r (entE l0)) := by
  refine Pu_enter Try.func120 rfl Try.ntmps120 rfl Try.call120 ?_
  intro a w M1 H hM1 S E
  replace h0 := h0.le RP2_mono hM1
  have b0 := h0.bound
  refine WP_seq ?_
  refine WP_region ?_
  refine S_v E rfl (R_assign E rfl) rfl ?_
  clear E a; intro a E
  refine WL_nil ?_
  refine T_n ?_
  refine WP_seq ?_
  refine WP_region ?_
  refine S_v E rfl (R_assign E rfl) rfl ?_
  clear E a; intro a E
  refine WL_nil ?_
  refine T_n ?_
  refine WP_seq ?_
  refine WP_seq ?_
  refine WP_region ?_
  refine S_v E rfl (R_move E rfl) rfl ?_
  clear E a; intro a E
  refine S_v E rfl (R_lenV E rfl T61 h0.len) rfl ?_
  clear E a; intro a E
  refine S_v E rfl (R_move E rfl) rfl ?_
  clear E a; intro a E
  refine WL_nil ?_
  refine T_n ?_
  refine WP_block ?_
  refine WP_loop (γ := Nat) (fun (k : Nat) a w => ∃ (M_1 : Hp) (u3 : Value), Hp.le M1 M_1 ∧ St w M_1 (H) ∧ Env a 67 [] [(0, v0), (3, u3), (10, v0), (11, .int .i64 (((l0).length : Nat) : Int)), (12, .int .i64 ((k : Nat) : Int))] ∧ (k ≤ (l0).length) ∧ RdS 2 RP2 M_1 u3 (srtK Prod.fst (lastsT (l0.drop k) (l0.take k)))) (fun k => ((l0).length) - k) 0 ⟨M1, _, Hp.le.refl _, S, E.keep ⟨rfl, rfl, rfl, rfl, rfl, trivial⟩, by ((try clear S); (try clear E); first | assumption | omega | rfl | (simp; done) | (simp_all; done) | (simp [List.take_add_one, *]; done) | grind [List.take_add_one]), (SLeqR (RdS.nil _) (by simp [lastsT, srtK]))⟩ ?_
  try clear E
  try clear S
  try clear a
  try clear w
  rintro k a w ⟨M_1, u3, hM_1, S, E, hL0_0, hs3_0⟩
  replace h0 := h0.le RP2_mono hM_1
  have hll := lastsT_len (l0.drop k) (l0.take k)
  rw [List.length_take] at hll
  have hsl := srtK_len Prod.fst (lastsT (l0.drop k) (l0.take k))
  refine WP_seq ?_
  refine WP_region ?_
  refine S_v E rfl (R_lss E rfl rfl) rfl ?_
  clear E a; intro a E
  refine WL_nil ?_
  refine T_n ?_
  refine WP_seq ?_
  refine WP_cond E rfl (fun hc_2 => ?_) (fun hc_2 => ?_)
  · replace hc_2 := of_decide_eq_true hc_2
    refine WP_skip ?_
    refine T_n ?_
    refine WP_seq ?_
    refine WP_block ?_
    refine WP_seq ?_
    refine WP_region ?_
    refine S_v E rfl (R_move E rfl) rfl ?_
    clear E a; intro a E
    obtain ⟨x_3, hx_3⟩ : ∃ x, (l0)[k]? = some x := ⟨_, List.getElem?_eq_getElem (by first | omega | (simp; done) | (simp; omega) | (simp_all; omega))⟩
    obtain ⟨p_4, hp_4, qp_4⟩ := RdP2.at h0 hx_3
    refine S_v E rfl (R_idx E rfl rfl T61 hp_4 rfl) rfl ?_
    clear E a; intro a E
    refine S_v E rfl (R_loadA (cs := [.int .i64 x_3.1, .int .i64 x_3.2]) E rfl (Try.isAgg119 _) (Try.sizeOf119 _) S.imm qp_4) rfl ?_
    clear E a; intro a E
    refine S_x (X_alloc (cs := #[.int .i64 0, .int .i64 0]) E S rfl Try.zeroValue119 rfl ?_)
    clear E a S; rintro a w b_5 E S
    refine S_v E rfl (R_assign E rfl) rfl ?_
    clear E a; intro a E
    refine S_x0 (X_storeG (us := [.int .i64 x_3.1, .int .i64 x_3.2]) E S rfl rfl (Try.sizeOf119 _) rfl (by intro u hu; simp only [List.mem_cons, List.not_mem_nil, or_false] at hu; rcases hu with rfl | rfl <;> first | exact rfl | exact rfl) ?_)
    clear E a S; rintro a w E S
    replace S : St w M_1 (blk b_5 (.cells #[.int .i64 x_3.1, .int .i64 x_3.2] 119) :: _) := S
    have S0 := S; clear S
    obtain ⟨M_6, hM_6, hb_7, S⟩ := S0.freezeB
    clear S0
    replace h0 := h0.le RP2_mono hM_6
    replace hs3_0 := hs3_0.le RP2_mono hM_6
    refine WL_nil ?_
    refine T_n ?_
    refine WP_seq ?_
    refine WP_region ?_
    refine S_v E rfl (R_assign E rfl) rfl ?_
    clear E a; intro a E
    refine WL_nil ?_
    refine T_n ?_
    refine WP_seq ?_
    refine WP_seq ?_
    refine WP_region ?_
    refine S_v E rfl (R_move E rfl) rfl ?_
    clear E a; intro a E
    refine S_v E rfl (R_move E rfl) rfl ?_
    clear E a; intro a E
    refine S_v E rfl (R_addx (m := ((k + 1 : Nat) : Int)) E rfl rfl (by omega) (by omega)) rfl ?_
    clear E a; intro a E
    obtain ⟨v_8, sv_8, hv_8⟩ := h0.subv (k + 1) ((l0).length) (by first | omega | (simp; done) | (simp; omega) | (simp_all; omega)) (by first | omega | (simp; done) | (simp; omega) | (simp_all; omega))
    simp only [List.take_length] at hv_8
    refine S_v E rfl (R_sliceL E rfl rfl T61 h0.len sv_8 (by omega)) rfl ?_
    clear E a; intro a E
    refine S_v E rfl (R_lenV E rfl T61 hv_8.len) rfl ?_
    clear E a; intro a E
    refine S_v E rfl (R_move E rfl) rfl ?_
    clear E a; intro a E
    refine WL_nil ?_
    refine T_n ?_
    refine WP_block ?_
    refine WP_loop (γ := Nat) (fun (j : Nat) a w => ∃ (M_9 : Hp), Hp.le M_6 M_9 ∧ St w M_9 (H) ∧ Env a 67 [] [(0, v0), (3, u3), (5, .pointer (some ⟨b_5, 0, none⟩)), (6, .bool (!decide (x_3.1 ∈ ((l0.drop (k + 1)).take j).map Prod.fst))), (10, v0), (11, .int .i64 (((l0).length : Nat) : Int)), (12, .int .i64 ((k : Nat) : Int)), (20, v_8), (21, .int .i64 ((((l0).drop (k + 1)).length : Nat) : Int)), (22, .int .i64 ((j : Nat) : Int))] ∧ (j ≤ ((l0).drop (k + 1)).length)) (fun j => (((l0).drop (k + 1)).length) - j) 0 ⟨M_6, Hp.le.refl _, S, E.keep ⟨rfl, rfl, rfl, look_bool (i := true) rfl (by (simp)), rfl, rfl, rfl, rfl, rfl, rfl, trivial⟩, by ((try clear S); (try clear E); first | assumption | omega | rfl | (simp; done) | (simp_all; done) | (simp [List.take_add_one, *]; done) | grind [List.take_add_one])⟩ ?_
    try clear E
    try clear S
    try clear a
    try clear w
    rintro j a w ⟨M_9, hM_9, S, E, hL1_0⟩
    replace h0 := h0.le RP2_mono hM_9
    replace hs3_0 := hs3_0.le RP2_mono hM_9
    replace hb_7 := hM_9.2 _ _ hb_7
    replace hv_8 := hv_8.le RP2_mono hM_9
    have hdl : (l0.drop (k + 1)).length = l0.length - (k + 1) := List.length_drop
    refine WP_seq ?_
    refine WP_region ?_
    refine S_v E rfl (R_lss E rfl rfl) rfl ?_
    clear E a; intro a E
    refine WL_nil ?_
    refine T_n ?_
    refine WP_seq ?_
    refine WP_cond E rfl (fun hc_10 => ?_) (fun hc_10 => ?_)
    · replace hc_10 := of_decide_eq_true hc_10
      refine WP_skip ?_
      refine T_n ?_
      refine WP_seq ?_
      refine WP_block ?_
      refine WP_seq ?_
      refine WP_region ?_
      obtain ⟨x_11, hx_11⟩ : ∃ x, ((l0).drop (k + 1))[j]? = some x := ⟨_, List.getElem?_eq_getElem (by first | omega | (simp; done) | (simp; omega) | (simp_all; omega))⟩
      obtain ⟨p_12, hp_12, qp_12⟩ := RdP2.at hv_8 hx_11
      refine S_v E rfl (R_idx E rfl rfl T61 hp_12 rfl) rfl ?_
      clear E a; intro a E
      refine S_v E rfl (R_loadA (cs := [.int .i64 x_11.1, .int .i64 x_11.2]) E rfl (Try.isAgg119 _) (Try.sizeOf119 _) S.imm qp_12) rfl ?_
      clear E a; intro a E
      refine S_x (X_alloc (cs := #[.int .i64 0, .int .i64 0]) E S rfl Try.zeroValue119 rfl ?_)
      clear E a S; rintro a w b_13 E S
      refine S_x0 (X_storeG (us := [.int .i64 x_11.1, .int .i64 x_11.2]) E S rfl rfl (Try.sizeOf119 _) rfl (by intro u hu; simp only [List.mem_cons, List.not_mem_nil, or_false] at hu; rcases hu with rfl | rfl <;> first | exact rfl | exact rfl) ?_)
      clear E a S; rintro a w E S
      replace S : St w M_9 (blk b_13 (.cells #[.int .i64 x_11.1, .int .i64 x_11.2] 119) :: _) := S
      have S0 := S; clear S
      obtain ⟨M_14, hM_14, hb_15, S⟩ := S0.freezeB
      clear S0
      replace h0 := h0.le RP2_mono hM_14
      replace hs3_0 := hs3_0.le RP2_mono hM_14
      replace hb_7 := hM_14.2 _ _ hb_7
      replace hv_8 := hv_8.le RP2_mono hM_14
      refine WL_nil ?_
      refine T_n ?_
      refine WP_region ?_
      refine S_v E rfl (R_move E rfl) rfl ?_
      clear E a; intro a E
      refine S_v E rfl (R_move E rfl) rfl ?_
      clear E a; intro a E
      refine split_bool (!decide (x_3.1 ∈ ((l0.drop (k + 1)).take j).map Prod.fst)) (fun hc_16 => ?_) (fun hc_16 => ?_)
      · replace E := E.val (t := 6) rfl hc_16
        replace E := E.val (t := 26) rfl hc_16
        replace E := E.val (t := 27) rfl hc_16
        refine WL_guard_yes E rfl rfl ?_
        refine S_v E rfl (R_fieldAddr E rfl (FA119_0 _)) rfl ?_
        clear E a; intro a E
        refine WL_guard_yes E rfl rfl ?_
        refine S_v E rfl (R_loadM E rfl Try.isAgg3 S.imm (cellM_boxo hb_15 rfl)) rfl ?_
        clear E a; intro a E
        refine WL_guard_yes E rfl rfl ?_
        refine S_v E rfl (R_fieldAddr E rfl (FA119_0 _)) rfl ?_
        clear E a; intro a E
        refine WL_guard_yes E rfl rfl ?_
        refine S_v E rfl (R_loadM E rfl Try.isAgg3 S.imm (cellM_boxo hb_7 rfl)) rfl ?_
        clear E a; intro a E
        refine WL_guard_yes E rfl rfl ?_
        refine S_v E rfl (R_neq E rfl rfl) rfl ?_
        clear E a; intro a E
        refine S_v E rfl (R_pickT E rfl rfl) rfl ?_
        clear E a; intro a E
        refine S_v E rfl (R_assign E rfl) rfl ?_
        clear E a; intro a E
        refine WL_nil ?_
        refine B_n ?_
        refine T_n ?_
        refine WP_region ?_
        refine S_v E rfl (R_addx (m := ((j + 1 : Nat) : Int)) E rfl rfl (by omega) (by omega)) rfl ?_
        clear E a; intro a E
        refine S_v E rfl (R_move E rfl) rfl ?_
        clear E a; intro a E
        refine WL_nil ?_
        refine T_n ?_
        exact ⟨j + 1, ⟨M_14, (hM_9.trans hM_14), S, E.keep ⟨rfl, rfl, rfl, look_bool (i := decide (x_11.1 ≠ x_3.1)) rfl (by (first | exact lst_y (by assumption) (by assumption) | exact lst_n (by assumption) (by assumption))), rfl, rfl, rfl, rfl, rfl, rfl, trivial⟩, by ((try clear S); (try clear E); first | assumption | omega | rfl | (simp; done) | (simp_all; done) | (simp [List.take_add_one, *]; done) | grind [List.take_add_one])⟩, by omega⟩
      · replace E := E.val (t := 6) rfl hc_16
        replace E := E.val (t := 26) rfl hc_16
        replace E := E.val (t := 27) rfl hc_16
        refine WL_guard_no E rfl rfl rfl rfl fun a E => ?_
        refine WL_guard_no E rfl rfl rfl rfl fun a E => ?_
        refine WL_guard_no E rfl rfl rfl rfl fun a E => ?_
        refine WL_guard_no E rfl rfl rfl rfl fun a E => ?_
        refine WL_guard_no E rfl rfl rfl rfl fun a E => ?_
        refine S_v E rfl (R_pickF E rfl rfl) rfl ?_
        clear E a; intro a E
        refine S_v E rfl (R_assign E rfl) rfl ?_
        clear E a; intro a E
        refine WL_nil ?_
        refine B_n ?_
        refine T_n ?_
        refine WP_region ?_
        refine S_v E rfl (R_addx (m := ((j + 1 : Nat) : Int)) E rfl rfl (by omega) (by omega)) rfl ?_
        clear E a; intro a E
        refine S_v E rfl (R_move E rfl) rfl ?_
        clear E a; intro a E
        refine WL_nil ?_
        refine T_n ?_
        exact ⟨j + 1, ⟨M_14, (hM_9.trans hM_14), S, E.keep ⟨rfl, rfl, rfl, look_bool (i := false) rfl (by (first | exact lst_y (by assumption) (by assumption) | exact lst_n (by assumption) (by assumption))), rfl, rfl, rfl, rfl, rfl, rfl, trivial⟩, by ((try clear S); (try clear E); first | assumption | omega | rfl | (simp; done) | (simp_all; done) | (simp [List.take_add_one, *]; done) | grind [List.take_add_one])⟩, by omega⟩
    · replace hc_10 := of_decide_eq_false hc_10
      refine WP_exit ?_
      refine T_x ?_
      refine T_x ?_
      refine B_x ?_
      refine T_n ?_
      refine WP_seq ?_
      refine WP_seq ?_
      refine WP_region ?_
      refine S_v E rfl (R_move E rfl) rfl ?_
      clear E a; intro a E
      refine S_v E rfl (R_not E rfl) rfl ?_
      clear E a; intro a E
      refine WL_nil ?_
      refine T_n ?_
      refine WP_cond E rfl (fun hc_17 => ?_) (fun hc_17 => ?_)
      · refine WP_exit ?_
        refine T_x ?_
        refine B_x ?_
        refine T_n ?_
        refine WP_region ?_
        refine S_v E rfl (R_addx (m := ((k + 1 : Nat) : Int)) E rfl rfl (by omega) (by omega)) rfl ?_
        clear E a; intro a E
        refine S_v E rfl (R_move E rfl) rfl ?_
        clear E a; intro a E
        refine WL_nil ?_
        refine T_n ?_
        exact ⟨k + 1, ⟨M_9, _, (hM_1.trans (hM_6.trans hM_9)), S, E.keep ⟨rfl, rfl, rfl, rfl, rfl, trivial⟩, by ((try clear S); (try clear E); first | assumption | omega | rfl | (simp; done) | (simp_all; done) | (simp [List.take_add_one, *]; done) | grind [List.take_add_one]), (SLeqR hs3_0 (by first | exact ent_skip (by assumption) (in_all (by assumption) (by assumption)) | exact ent_put (by assumption) (in_none (by assumption) (by assumption)) (by assumption) (by first | exact gt_len (by assumption) | exact gt_at (by assumption) (by assumption))))⟩, by omega⟩
      · refine WP_skip ?_
        refine T_n ?_
        refine WP_seq ?_
        refine WP_region ?_
        refine S_v E rfl (R_assign E rfl) rfl ?_
        clear E a; intro a E
        refine WL_nil ?_
        refine T_n ?_
        refine WP_seq ?_
        refine WP_block ?_
        refine WP_loop (γ := Nat) (fun (n : Nat) a w => ∃ (M_18 : Hp), Hp.le M_9 M_18 ∧ St w M_18 (H) ∧ Env a 67 [] [(0, v0), (3, u3), (5, .pointer (some ⟨b_5, 0, none⟩)), (9, .int .i64 ((n : Nat) : Int)), (10, v0), (11, .int .i64 (((l0).length : Nat) : Int)), (12, .int .i64 ((k : Nat) : Int))] ∧ (n ≤ (srtK Prod.fst (lastsT (l0.drop k) (l0.take k))).length) ∧ (∀ q ∈ (srtK Prod.fst (lastsT (l0.drop k) (l0.take k))).take n, q.1 < x_3.1)) (fun n => (srtK Prod.fst (lastsT (l0.drop k) (l0.take k))).length - n) 0 ⟨M_9, Hp.le.refl _, S, E.keep ⟨rfl, rfl, rfl, rfl, rfl, rfl, rfl, trivial⟩, (by omega), (by simp)⟩ ?_
        try clear E
        try clear S
        try clear a
        try clear w
        rintro n a w ⟨M_18, hM_18, S, E, hL2_0, hL2_1⟩
        replace h0 := h0.le RP2_mono hM_18
        replace hs3_0 := hs3_0.le RP2_mono hM_18
        replace hb_7 := hM_18.2 _ _ hb_7
        replace hv_8 := hv_8.le RP2_mono hM_18
        refine WP_seq ?_
        refine WP_seq ?_
        have hb_7k18 := hb_7
        replace S := S.mono_heap (w' := World.drew _) rfl
        refine WP_drawn (C := fun x w => agree M_18 w) (bf := (fun i => [])) [0, 1, 2, 3, 4, 5, 6, 7, 8, 9, 10, 11, 12, 13] [0, 1, 2, 3, 4, 5, 6, 7, 8, 9, 10, 11, 12, 13] Try.mixed (by kernel_rfl) (fun x hq => S.imm) ?_
        refine D_v E rfl rfl rfl (fun w hC => (R_move E rfl)) ?_
        clear E a; intro a E
        refine D_v E rfl rfl rfl (fun w hC => (R_move E rfl)) ?_
        clear E a; intro a E
        refine D_v E rfl rfl rfl (fun w hC => (R_lenV E rfl T61 hs3_0.len)) ?_
        clear E a; intro a E
        refine D_v E rfl rfl rfl (fun w hC => (R_lss E rfl rfl)) ?_
        clear E a; intro a E
        refine D_v E rfl rfl rfl (fun w hC => (R_move E rfl)) ?_
        clear E a; intro a E
        refine split_bool (decide (((n : Nat) : Int) < (((srtK Prod.fst (lastsT (l0.drop k) (l0.take k))).length : Nat) : Int))) (fun hc_19 => ?_) (fun hc_19 => ?_)
        · replace E := E.val (t := 40) rfl hc_19
          replace E := E.val (t := 41) rfl hc_19
          replace hc_19 := of_decide_eq_true hc_19
          refine D_vyes E rfl rfl rfl rfl rfl (fun w hC => (R_move E rfl)) ?_
          clear E a; intro a E
          refine D_vyes E rfl rfl rfl rfl rfl (fun w hC => (R_move E rfl)) ?_
          clear E a; intro a E
          obtain ⟨x_20, hx_20⟩ : ∃ x, (srtK Prod.fst (lastsT (l0.drop k) (l0.take k)))[n]? = some x := ⟨_, List.getElem?_eq_getElem (by first | omega | (simp; done) | (simp; omega) | (simp_all; omega))⟩
          obtain ⟨p_21, hp_21, qp_21⟩ := RdP2.at hs3_0 hx_20
          refine D_vyes E rfl rfl rfl rfl rfl (fun w hC => (R_idx E rfl rfl T61 hp_21 rfl)) ?_
          clear E a; intro a E
          have qf_22 := qp_21 0 _ rfl
          refine D_vyes E rfl rfl rfl rfl rfl (fun w hC => (R_fieldAddr E rfl (FA119_0 _))) ?_
          clear E a; intro a E
          refine D_vyes E rfl rfl rfl rfl rfl (fun w hC => (R_loadM E rfl Try.isAgg3 hC qf_22)) ?_
          clear E a; intro a E
          refine D_vyes E rfl rfl rfl rfl rfl (fun w hC => (R_fieldAddr E rfl (FA119_0 _))) ?_
          clear E a; intro a E
          refine D_vyes E rfl rfl rfl rfl rfl (fun w hC => (R_loadM E rfl Try.isAgg3 hC (cellM_boxo hb_7k18 rfl))) ?_
          clear E a; intro a E
          refine D_vyes E rfl rfl rfl rfl rfl (fun w hC => (R_lss E rfl rfl)) ?_
          clear E a; intro a E
          refine D_v E rfl rfl rfl (fun w hC => (R_pickT E rfl rfl)) ?_
          clear E a; intro a E
          refine D_end (NoP_n ?_)
          refine T_n ?_
          refine WP_cond E rfl (fun hc_23 => ?_) (fun hc_23 => ?_)
          · replace hc_23 := of_decide_eq_true hc_23
            refine WP_skip ?_
            refine T_n ?_
            refine WP_block ?_
            refine WP_region ?_
            refine S_v E rfl (R_move E rfl) rfl ?_
            clear E a; intro a E
            refine S_v E rfl (R_addx (m := ((n + 1 : Nat) : Int)) E rfl rfl (by omega) (by omega)) rfl ?_
            clear E a; intro a E
            refine S_v E rfl (R_assign E rfl) rfl ?_
            clear E a; intro a E
            refine WL_nil ?_
            refine B_n ?_
            refine T_n ?_
            exact ⟨n + 1, ⟨M_18, hM_18, S, E.keep ⟨rfl, rfl, rfl, rfl, rfl, rfl, rfl, trivial⟩, (by omega), (by exact lt_snoc (by assumption) (by assumption) (by assumption))⟩, by omega⟩
          · replace hc_23 := of_decide_eq_false hc_23
            refine WP_exit ?_
            refine T_x ?_
            refine T_x ?_
            refine B_x ?_
            refine T_n ?_
            refine DG_start Try.mixed ?_
            refine DG_split 0 6 (by decide) (by kernel_rfl) ?_ ?_
            · refine DG_split 4 6 (by decide) (by kernel_rfl) ?_ ?_
              · have hb_7k23 := hb_7
                have qp_21k23 := qp_21
                have qf_22k23 := qf_22
                replace S := S.mono_heap (w' := World.drew _) rfl
                refine DG_end (C := fun x w => agree M_18 w) (bf := (fun i => [])) [1, 2, 3, 5, 8, 9, 10, 12] [1, 2, 3, 5, 8, 9, 10, 0, 4, 6, 7, 11, 12] (by kernel_rfl) (fun x hq => S.imm) ?_
                refine D_v E rfl rfl rfl (fun w hC => (R_move E rfl)) ?_
                clear E a; intro a E
                refine D_v E rfl rfl rfl (fun w hC => (R_move E rfl)) ?_
                clear E a; intro a E
                obtain ⟨v_24, sv_24, hv_24⟩ := hs3_0.subv 0 n (by first | omega | (simp; done) | (simp; omega) | (simp_all; omega)) (by first | omega | (simp; done) | (simp; omega) | (simp_all; omega))
                simp only [List.drop_zero] at hv_24
                refine D_v E rfl rfl rfl (fun w hC => (R_sliceH E rfl rfl T61 sv_24 (by omega))) ?_
                clear E a; intro a E
                refine D_v E rfl rfl rfl (fun w hC => (R_loadGM E rfl (Try.isAgg119 _) (Try.sizeOf119 _) hC hb_7k23)) ?_
                clear E a; intro a E
                refine D_v E rfl rfl rfl (fun w hC => (R_move E rfl)) ?_
                clear E a; intro a E
                refine D_v E rfl rfl rfl (fun w hC => (R_move E rfl)) ?_
                clear E a; intro a E
                obtain ⟨v_25, sv_25, hv_25⟩ := hs3_0.subv n ((srtK Prod.fst (lastsT (l0.drop k) (l0.take k))).length) (by first | omega | (simp; done) | (simp; omega) | (simp_all; omega)) (by first | omega | (simp; done) | (simp; omega) | (simp_all; omega))
                simp only [List.take_length] at hv_25
                refine D_v E rfl rfl rfl (fun w hC => (R_sliceL E rfl rfl T61 hs3_0.len sv_25 (by omega))) ?_
                clear E a; intro a E
                refine D_x rfl rfl rfl (X_buildA0 E S rfl T61 ?_)
                clear E a S; rintro a w v_26 E S
                have hr_27 : RowsR RP2 2 M_18 ([] : List (Int × Int)) [] := RowsR.nil
                replace S : St w M_18 (OwnC 119 2 v_26 ([] : List (Int × Int)).length [] :: _) := S
                refine ⟨fun x hq hb => (agree_le (Hp.le.refl _) S.imm), ?_⟩
                refine D_x rfl rfl rfl (X_appendR (R := RP2) (zs := ([] : List (Int × Int))) (ys := (srtK Prod.fst (lastsT (l0.drop k) (l0.take k))).take n) E S hr_27 rfl rfl rfl T61 hv_24 one_RP2 (by first | omega | (simp; done) | (simp; omega) | (simp_all; omega)) (by first | omega | (simp; done) | (simp; omega) | (simp_all; omega)) ?_)
                clear E a S; rintro a w v_28 xs_29 E hr_30 S
                refine ⟨fun x hq hb => (agree_le (Hp.le.refl _) S.imm), ?_⟩
                refine D_x rfl rfl rfl (X_buildA1 (R := RP2) (cs := [.int .i64 x_3.1, .int .i64 x_3.2]) (x0 := x_3) RP2_mono E S rfl T61 rfl rfl rfl rfl ?_)
                clear E a S; rintro a v_31 w M_32 hM_32 hv_31 S E
                replace h0 := h0.le RP2_mono hM_32
                replace hs3_0 := hs3_0.le RP2_mono hM_32
                replace hb_7 := hM_32.2 _ _ hb_7
                replace hv_8 := hv_8.le RP2_mono hM_32
                replace qp_21 := cellsM_le hM_32 qp_21
                replace hv_24 := hv_24.le RP2_mono hM_32
                replace hv_25 := hv_25.le RP2_mono hM_32
                replace hr_30 := hr_30.le RP2_mono hM_32
                refine ⟨fun x hq hb => (agree_le hM_32 S.imm), ?_⟩
                refine D_x rfl rfl rfl (X_appendR (R := RP2) (zs := ([] : List (Int × Int)) ++ ((srtK Prod.fst (lastsT (l0.drop k) (l0.take k))).take n)) (ys := [x_3]) E S hr_30 rfl rfl rfl T61 hv_31 one_RP2 (by first | omega | (simp; done) | (simp; omega) | (simp_all; omega)) (by first | omega | (simp; done) | (simp; omega) | (simp_all; omega)) ?_)
                clear E a S; rintro a w v_33 xs_34 E hr_35 S
                refine ⟨fun x hq hb => (agree_le hM_32 S.imm), ?_⟩
                refine D_x rfl rfl rfl (X_appendR (R := RP2) (zs := (([] : List (Int × Int)) ++ ((srtK Prod.fst (lastsT (l0.drop k) (l0.take k))).take n)) ++ [x_3]) (ys := (srtK Prod.fst (lastsT (l0.drop k) (l0.take k))).drop n) E S hr_35 rfl rfl rfl T61 hv_25 one_RP2 (by first | omega | (simp; done) | (simp; omega) | (simp_all; omega)) (by first | omega | (simp; done) | (simp; omega) | (simp_all; omega)) ?_)
                clear E a S; rintro a w v_36 xs_37 E hr_38 S
                refine ⟨fun x hq hb => (agree_le hM_32 S.imm), ?_⟩
                refine D_v E rfl rfl rfl (fun w hC => (R_assign E rfl)) ?_
                clear E a; intro a E
                refine D_end (NoP_n ?_)
                refine B_n ?_
                refine T_n ?_
                refine WP_region ?_
                refine S_v E rfl (R_addx (m := ((k + 1 : Nat) : Int)) E rfl rfl (by omega) (by omega)) rfl ?_
                clear E a; intro a E
                refine S_v E rfl (R_move E rfl) rfl ?_
                clear E a; intro a E
                refine WL_nil ?_
                refine T_n ?_
                have S0 := S; clear S
                obtain ⟨M_39, hM_39, hz_40, S⟩ := S0.freezeR hr_38 RP2_mono (by (first | omega | (simp; omega) | (simp; done) | (simp_all; omega) | grind))
                clear S0
                replace h0 := h0.le RP2_mono hM_39
                replace hs3_0 := hs3_0.le RP2_mono hM_39
                replace hb_7 := hM_39.2 _ _ hb_7
                replace hv_8 := hv_8.le RP2_mono hM_39
                replace qp_21 := cellsM_le hM_39 qp_21
                replace hv_24 := hv_24.le RP2_mono hM_39
                replace hv_25 := hv_25.le RP2_mono hM_39
                replace hv_31 := hv_31.le RP2_mono hM_39
                exact ⟨k + 1, ⟨M_39, _, (hM_1.trans (hM_6.trans (hM_9.trans (hM_18.trans (hM_32.trans hM_39))))), S, E.keep ⟨rfl, rfl, rfl, rfl, rfl, trivial⟩, by ((try clear S); (try clear E); first | assumption | omega | rfl | (simp; done) | (simp_all; done) | (simp [List.take_add_one, *]; done) | grind [List.take_add_one]), (SLeqR hz_40 (by first | exact ent_skip (by assumption) (in_all (by assumption) (by assumption)) | exact ent_put (by assumption) (in_none (by assumption) (by assumption)) (by assumption) (by first | exact gt_len (by assumption) | exact gt_at (by assumption) (by assumption))))⟩, by omega⟩
              · have hb_7k40 := hb_7
                have qp_21k40 := qp_21
                have qf_22k40 := qf_22
                replace S := S.mono_heap (w' := World.drew _) rfl
                refine DG_end (C := fun x w => agree M_18 w) (bf := (fun i => [])) [1, 2, 3, 5, 8, 9, 10, 12] [1, 2, 3, 5, 8, 9, 10, 0, 6, 4, 7, 11, 12] (by kernel_rfl) (fun x hq => S.imm) ?_
                refine D_v E rfl rfl rfl (fun w hC => (R_move E rfl)) ?_
                clear E a; intro a E
                refine D_v E rfl rfl rfl (fun w hC => (R_move E rfl)) ?_
                clear E a; intro a E
                obtain ⟨v_41, sv_41, hv_41⟩ := hs3_0.subv 0 n (by first | omega | (simp; done) | (simp; omega) | (simp_all; omega)) (by first | omega | (simp; done) | (simp; omega) | (simp_all; omega))
                simp only [List.drop_zero] at hv_41
                refine D_v E rfl rfl rfl (fun w hC => (R_sliceH E rfl rfl T61 sv_41 (by omega))) ?_
                clear E a; intro a E
                refine D_v E rfl rfl rfl (fun w hC => (R_loadGM E rfl (Try.isAgg119 _) (Try.sizeOf119 _) hC hb_7k40)) ?_
                clear E a; intro a E
                refine D_v E rfl rfl rfl (fun w hC => (R_move E rfl)) ?_
                clear E a; intro a E
                refine D_v E rfl rfl rfl (fun w hC => (R_move E rfl)) ?_
                clear E a; intro a E
                obtain ⟨v_42, sv_42, hv_42⟩ := hs3_0.subv n ((srtK Prod.fst (lastsT (l0.drop k) (l0.take k))).length) (by first | omega | (simp; done) | (simp; omega) | (simp_all; omega)) (by first | omega | (simp; done) | (simp; omega) | (simp_all; omega))
                simp only [List.take_length] at hv_42
                refine D_v E rfl rfl rfl (fun w hC => (R_sliceL E rfl rfl T61 hs3_0.len sv_42 (by omega))) ?_
                clear E a; intro a E
                refine D_x rfl rfl rfl (X_buildA0 E S rfl T61 ?_)
                clear E a S; rintro a w v_43 E S
                have hr_44 : RowsR RP2 2 M_18 ([] : List (Int × Int)) [] := RowsR.nil
                replace S : St w M_18 (OwnC 119 2 v_43 ([] : List (Int × Int)).length [] :: _) := S
                refine ⟨fun x hq hb => (agree_le (Hp.le.refl _) S.imm), ?_⟩
                refine D_x rfl rfl rfl (X_buildA1 (R := RP2) (cs := [.int .i64 x_3.1, .int .i64 x_3.2]) (x0 := x_3) RP2_mono E S rfl T61 rfl rfl rfl rfl ?_)
                clear E a S; rintro a v_45 w M_46 hM_46 hv_45 S E
                replace h0 := h0.le RP2_mono hM_46
                replace hs3_0 := hs3_0.le RP2_mono hM_46
                replace hb_7 := hM_46.2 _ _ hb_7
                replace hv_8 := hv_8.le RP2_mono hM_46
                replace qp_21 := cellsM_le hM_46 qp_21
                replace hv_41 := hv_41.le RP2_mono hM_46
                replace hv_42 := hv_42.le RP2_mono hM_46
                replace hr_44 := hr_44.le RP2_mono hM_46
                refine ⟨fun x hq hb => (agree_le hM_46 S.imm), ?_⟩
                refine D_x rfl rfl rfl (X_appendR (R := RP2) (zs := ([] : List (Int × Int))) (ys := (srtK Prod.fst (lastsT (l0.drop k) (l0.take k))).take n) E S hr_44 rfl rfl rfl T61 hv_41 one_RP2 (by first | omega | (simp; done) | (simp; omega) | (simp_all; omega)) (by first | omega | (simp; done) | (simp; omega) | (simp_all; omega)) ?_)
                clear E a S; rintro a w v_47 xs_48 E hr_49 S
                refine ⟨fun x hq hb => (agree_le hM_46 S.imm), ?_⟩
                refine D_x rfl rfl rfl (X_appendR (R := RP2) (zs := ([] : List (Int × Int)) ++ ((srtK Prod.fst (lastsT (l0.drop k) (l0.take k))).take n)) (ys := [x_3]) E S hr_49 rfl rfl rfl T61 hv_45 one_RP2 (by first | omega | (simp; done) | (simp; omega) | (simp_all; omega)) (by first | omega | (simp; done) | (simp; omega) | (simp_all; omega)) ?_)
                clear E a S; rintro a w v_50 xs_51 E hr_52 S
                refine ⟨fun x hq hb => (agree_le hM_46 S.imm), ?_⟩
                refine D_x rfl rfl rfl (X_appendR (R := RP2) (zs := (([] : List (Int × Int)) ++ ((srtK Prod.fst (lastsT (l0.drop k) (l0.take k))).take n)) ++ [x_3]) (ys := (srtK Prod.fst (lastsT (l0.drop k) (l0.take k))).drop n) E S hr_52 rfl rfl rfl T61 hv_42 one_RP2 (by first | omega | (simp; done) | (simp; omega) | (simp_all; omega)) (by first | omega | (simp; done) | (simp; omega) | (simp_all; omega)) ?_)
                clear E a S; rintro a w v_53 xs_54 E hr_55 S
                refine ⟨fun x hq hb => (agree_le hM_46 S.imm), ?_⟩
                refine D_v E rfl rfl rfl (fun w hC => (R_assign E rfl)) ?_
                clear E a; intro a E
                refine D_end (NoP_n ?_)
                refine B_n ?_
                refine T_n ?_
                refine WP_region ?_
                refine S_v E rfl (R_addx (m := ((k + 1 : Nat) : Int)) E rfl rfl (by omega) (by omega)) rfl ?_
                clear E a; intro a E
                refine S_v E rfl (R_move E rfl) rfl ?_
                clear E a; intro a E
                refine WL_nil ?_
                refine T_n ?_
                have S0 := S; clear S
                obtain ⟨M_56, hM_56, hz_57, S⟩ := S0.freezeR hr_55 RP2_mono (by (first | omega | (simp; omega) | (simp; done) | (simp_all; omega) | grind))
                clear S0
                replace h0 := h0.le RP2_mono hM_56
                replace hs3_0 := hs3_0.le RP2_mono hM_56
                replace hb_7 := hM_56.2 _ _ hb_7
                replace hv_8 := hv_8.le RP2_mono hM_56
                replace qp_21 := cellsM_le hM_56 qp_21
                replace hv_41 := hv_41.le RP2_mono hM_56
                replace hv_42 := hv_42.le RP2_mono hM_56
                replace hv_45 := hv_45.le RP2_mono hM_56
                exact ⟨k + 1, ⟨M_56, _, (hM_1.trans (hM_6.trans (hM_9.trans (hM_18.trans (hM_46.trans hM_56))))), S, E.keep ⟨rfl, rfl, rfl, rfl, rfl, trivial⟩, by ((try clear S); (try clear E); first | assumption | omega | rfl | (simp; done) | (simp_all; done) | (simp [List.take_add_one, *]; done) | grind [List.take_add_one]), (SLeqR hz_57 (by first | exact ent_skip (by assumption) (in_all (by assumption) (by assumption)) | exact ent_put (by assumption) (in_none (by assumption) (by assumption)) (by assumption) (by first | exact gt_len (by assumption) | exact gt_at (by assumption) (by assumption))))⟩, by omega⟩
            · have hb_7k57 := hb_7
              have qp_21k57 := qp_21
              have qf_22k57 := qf_22
              replace S := S.mono_heap (w' := World.drew _) rfl
              refine DG_end (C := fun x w => agree M_18 w) (bf := (fun i => [])) [1, 2, 3, 5, 8, 9, 10, 12] [1, 2, 3, 5, 8, 9, 10, 6, 0, 4, 7, 11, 12] (by kernel_rfl) (fun x hq => S.imm) ?_
              refine D_v E rfl rfl rfl (fun w hC => (R_move E rfl)) ?_
              clear E a; intro a E
              refine D_v E rfl rfl rfl (fun w hC => (R_move E rfl)) ?_
              clear E a; intro a E
              obtain ⟨v_58, sv_58, hv_58⟩ := hs3_0.subv 0 n (by first | omega | (simp; done) | (simp; omega) | (simp_all; omega)) (by first | omega | (simp; done) | (simp; omega) | (simp_all; omega))
              simp only [List.drop_zero] at hv_58
              refine D_v E rfl rfl rfl (fun w hC => (R_sliceH E rfl rfl T61 sv_58 (by omega))) ?_
              clear E a; intro a E
              refine D_v E rfl rfl rfl (fun w hC => (R_loadGM E rfl (Try.isAgg119 _) (Try.sizeOf119 _) hC hb_7k57)) ?_
              clear E a; intro a E
              refine D_v E rfl rfl rfl (fun w hC => (R_move E rfl)) ?_
              clear E a; intro a E
              refine D_v E rfl rfl rfl (fun w hC => (R_move E rfl)) ?_
              clear E a; intro a E
              obtain ⟨v_59, sv_59, hv_59⟩ := hs3_0.subv n ((srtK Prod.fst (lastsT (l0.drop k) (l0.take k))).length) (by first | omega | (simp; done) | (simp; omega) | (simp_all; omega)) (by first | omega | (simp; done) | (simp; omega) | (simp_all; omega))
              simp only [List.take_length] at hv_59
              refine D_v E rfl rfl rfl (fun w hC => (R_sliceL E rfl rfl T61 hs3_0.len sv_59 (by omega))) ?_
              clear E a; intro a E
              refine D_x rfl rfl rfl (X_buildA1 (R := RP2) (cs := [.int .i64 x_3.1, .int .i64 x_3.2]) (x0 := x_3) RP2_mono E S rfl T61 rfl rfl rfl rfl ?_)
              clear E a S; rintro a v_60 w M_61 hM_61 hv_60 S E
              replace h0 := h0.le RP2_mono hM_61
              replace hs3_0 := hs3_0.le RP2_mono hM_61
              replace hb_7 := hM_61.2 _ _ hb_7
              replace hv_8 := hv_8.le RP2_mono hM_61
              replace qp_21 := cellsM_le hM_61 qp_21
              replace hv_58 := hv_58.le RP2_mono hM_61
              replace hv_59 := hv_59.le RP2_mono hM_61
              refine ⟨fun x hq hb => (agree_le hM_61 S.imm), ?_⟩
              refine D_x rfl rfl rfl (X_buildA0 E S rfl T61 ?_)
              clear E a S; rintro a w v_62 E S
              have hr_63 : RowsR RP2 2 M_61 ([] : List (Int × Int)) [] := RowsR.nil
              replace S : St w M_61 (OwnC 119 2 v_62 ([] : List (Int × Int)).length [] :: _) := S
              refine ⟨fun x hq hb => (agree_le hM_61 S.imm), ?_⟩
              refine D_x rfl rfl rfl (X_appendR (R := RP2) (zs := ([] : List (Int × Int))) (ys := (srtK Prod.fst (lastsT (l0.drop k) (l0.take k))).take n) E S hr_63 rfl rfl rfl T61 hv_58 one_RP2 (by first | omega | (simp; done) | (simp; omega) | (simp_all; omega)) (by first | omega | (simp; done) | (simp; omega) | (simp_all; omega)) ?_)
              clear E a S; rintro a w v_64 xs_65 E hr_66 S
              refine ⟨fun x hq hb => (agree_le hM_61 S.imm), ?_⟩
              refine D_x rfl rfl rfl (X_appendR (R := RP2) (zs := ([] : List (Int × Int)) ++ ((srtK Prod.fst (lastsT (l0.drop k) (l0.take k))).take n)) (ys := [x_3]) E S hr_66 rfl rfl rfl T61 hv_60 one_RP2 (by first | omega | (simp; done) | (simp; omega) | (simp_all; omega)) (by first | omega | (simp; done) | (simp; omega) | (simp_all; omega)) ?_)
              clear E a S; rintro a w v_67 xs_68 E hr_69 S
              refine ⟨fun x hq hb => (agree_le hM_61 S.imm), ?_⟩
              refine D_x rfl rfl rfl (X_appendR (R := RP2) (zs := (([] : List (Int × Int)) ++ ((srtK Prod.fst (lastsT (l0.drop k) (l0.take k))).take n)) ++ [x_3]) (ys := (srtK Prod.fst (lastsT (l0.drop k) (l0.take k))).drop n) E S hr_69 rfl rfl rfl T61 hv_59 one_RP2 (by first | omega | (simp; done) | (simp; omega) | (simp_all; omega)) (by first | omega | (simp; done) | (simp; omega) | (simp_all; omega)) ?_)
              clear E a S; rintro a w v_70 xs_71 E hr_72 S
              refine ⟨fun x hq hb => (agree_le hM_61 S.imm), ?_⟩
              refine D_v E rfl rfl rfl (fun w hC => (R_assign E rfl)) ?_
              clear E a; intro a E
              refine D_end (NoP_n ?_)
              refine B_n ?_
              refine T_n ?_
              refine WP_region ?_
              refine S_v E rfl (R_addx (m := ((k + 1 : Nat) : Int)) E rfl rfl (by omega) (by omega)) rfl ?_
              clear E a; intro a E
              refine S_v E rfl (R_move E rfl) rfl ?_
              clear E a; intro a E
              refine WL_nil ?_
              refine T_n ?_
              have S0 := S; clear S
              obtain ⟨M_73, hM_73, hz_74, S⟩ := S0.freezeR hr_72 RP2_mono (by (first | omega | (simp; omega) | (simp; done) | (simp_all; omega) | grind))
              clear S0
              replace h0 := h0.le RP2_mono hM_73
              replace hs3_0 := hs3_0.le RP2_mono hM_73
              replace hb_7 := hM_73.2 _ _ hb_7
              replace hv_8 := hv_8.le RP2_mono hM_73
              replace qp_21 := cellsM_le hM_73 qp_21
              replace hv_58 := hv_58.le RP2_mono hM_73
              replace hv_59 := hv_59.le RP2_mono hM_73
              replace hv_60 := hv_60.le RP2_mono hM_73
              exact ⟨k + 1, ⟨M_73, _, (hM_1.trans (hM_6.trans (hM_9.trans (hM_18.trans (hM_61.trans hM_73))))), S, E.keep ⟨rfl, rfl, rfl, rfl, rfl, trivial⟩, by ((try clear S); (try clear E); first | assumption | omega | rfl | (simp; done) | (simp_all; done) | (simp [List.take_add_one, *]; done) | grind [List.take_add_one]), (SLeqR hz_74 (by first | exact ent_skip (by assumption) (in_all (by assumption) (by assumption)) | exact ent_put (by assumption) (in_none (by assumption) (by assumption)) (by assumption) (by first | exact gt_len (by assumption) | exact gt_at (by assumption) (by assumption))))⟩, by omega⟩
        · replace E := E.val (t := 40) rfl hc_19
          replace E := E.val (t := 41) rfl hc_19
          replace hc_19 := of_decide_eq_false hc_19
          refine D_no E rfl rfl rfl rfl rfl fun a E => ?_
          refine D_no E rfl rfl rfl rfl rfl fun a E => ?_
          refine D_no E rfl rfl rfl rfl rfl fun a E => ?_
          refine D_no E rfl rfl rfl rfl rfl fun a E => ?_
          refine D_no E rfl rfl rfl rfl rfl fun a E => ?_
          refine D_no E rfl rfl rfl rfl rfl fun a E => ?_
          refine D_no E rfl rfl rfl rfl rfl fun a E => ?_
          refine D_no E rfl rfl rfl rfl rfl fun a E => ?_
          refine D_v E rfl rfl rfl (fun w hC => (R_pickF E rfl rfl)) ?_
          clear E a; intro a E
          refine D_end (NoP_n ?_)
          refine T_n ?_
          refine WP_condF E rfl rfl ?_
          refine WP_exit ?_
          refine T_x ?_
          refine T_x ?_
          refine B_x ?_
          refine T_n ?_
          refine DG_start Try.mixed ?_
          refine DG_split 0 6 (by decide) (by kernel_rfl) ?_ ?_
          · refine DG_split 4 6 (by decide) (by kernel_rfl) ?_ ?_
            · have hb_7k74 := hb_7
              replace S := S.mono_heap (w' := World.drew _) rfl
              refine DG_end (C := fun x w => agree M_18 w) (bf := (fun i => [])) [1, 2, 3, 5, 8, 9, 10, 12] [1, 2, 3, 5, 8, 9, 10, 0, 4, 6, 7, 11, 12] (by kernel_rfl) (fun x hq => S.imm) ?_
              refine D_v E rfl rfl rfl (fun w hC => (R_move E rfl)) ?_
              clear E a; intro a E
              refine D_v E rfl rfl rfl (fun w hC => (R_move E rfl)) ?_
              clear E a; intro a E
              obtain ⟨v_75, sv_75, hv_75⟩ := hs3_0.subv 0 n (by first | omega | (simp; done) | (simp; omega) | (simp_all; omega)) (by first | omega | (simp; done) | (simp; omega) | (simp_all; omega))
              simp only [List.drop_zero] at hv_75
              refine D_v E rfl rfl rfl (fun w hC => (R_sliceH E rfl rfl T61 sv_75 (by omega))) ?_
              clear E a; intro a E
              refine D_v E rfl rfl rfl (fun w hC => (R_loadGM E rfl (Try.isAgg119 _) (Try.sizeOf119 _) hC hb_7k74)) ?_
              clear E a; intro a E
              refine D_v E rfl rfl rfl (fun w hC => (R_move E rfl)) ?_
              clear E a; intro a E
              refine D_v E rfl rfl rfl (fun w hC => (R_move E rfl)) ?_
              clear E a; intro a E
              obtain ⟨v_76, sv_76, hv_76⟩ := hs3_0.subv n ((srtK Prod.fst (lastsT (l0.drop k) (l0.take k))).length) (by first | omega | (simp; done) | (simp; omega) | (simp_all; omega)) (by first | omega | (simp; done) | (simp; omega) | (simp_all; omega))
              simp only [List.take_length] at hv_76
              refine D_v E rfl rfl rfl (fun w hC => (R_sliceL E rfl rfl T61 hs3_0.len sv_76 (by omega))) ?_
              clear E a; intro a E
              refine D_x rfl rfl rfl (X_buildA0 E S rfl T61 ?_)
              clear E a S; rintro a w v_77 E S
              have hr_78 : RowsR RP2 2 M_18 ([] : List (Int × Int)) [] := RowsR.nil
              replace S : St w M_18 (OwnC 119 2 v_77 ([] : List (Int × Int)).length [] :: _) := S
              refine ⟨fun x hq hb => (agree_le (Hp.le.refl _) S.imm), ?_⟩
              refine D_x rfl rfl rfl (X_appendR (R := RP2) (zs := ([] : List (Int × Int))) (ys := (srtK Prod.fst (lastsT (l0.drop k) (l0.take k))).take n) E S hr_78 rfl rfl rfl T61 hv_75 one_RP2 (by first | omega | (simp; done) | (simp; omega) | (simp_all; omega)) (by first | omega | (simp; done) | (simp; omega) | (simp_all; omega)) ?_)
              clear E a S; rintro a w v_79 xs_80 E hr_81 S
              refine ⟨fun x hq hb => (agree_le (Hp.le.refl _) S.imm), ?_⟩
              refine D_x rfl rfl rfl (X_buildA1 (R := RP2) (cs := [.int .i64 x_3.1, .int .i64 x_3.2]) (x0 := x_3) RP2_mono E S rfl T61 rfl rfl rfl rfl ?_)
              clear E a S; rintro a v_82 w M_83 hM_83 hv_82 S E
              replace h0 := h0.le RP2_mono hM_83
              replace hs3_0 := hs3_0.le RP2_mono hM_83
              replace hb_7 := hM_83.2 _ _ hb_7
              replace hv_8 := hv_8.le RP2_mono hM_83
              replace hv_75 := hv_75.le RP2_mono hM_83
              replace hv_76 := hv_76.le RP2_mono hM_83
              replace hr_81 := hr_81.le RP2_mono hM_83
              refine ⟨fun x hq hb => (agree_le hM_83 S.imm), ?_⟩
              refine D_x rfl rfl rfl (X_appendR (R := RP2) (zs := ([] : List (Int × Int)) ++ ((srtK Prod.fst (lastsT (l0.drop k) (l0.take k))).take n)) (ys := [x_3]) E S hr_81 rfl rfl rfl T61 hv_82 one_RP2 (by first | omega | (simp; done) | (simp; omega) | (simp_all; omega)) (by first | omega | (simp; done) | (simp; omega) | (simp_all; omega)) ?_)
              clear E a S; rintro a w v_84 xs_85 E hr_86 S
              refine ⟨fun x hq hb => (agree_le hM_83 S.imm), ?_⟩
              refine D_x rfl rfl rfl (X_appendR (R := RP2) (zs := (([] : List (Int × Int)) ++ ((srtK Prod.fst (lastsT (l0.drop k) (l0.take k))).take n)) ++ [x_3]) (ys := (srtK Prod.fst (lastsT (l0.drop k) (l0.take k))).drop n) E S hr_86 rfl rfl rfl T61 hv_76 one_RP2 (by first | omega | (simp; done) | (simp; omega) | (simp_all; omega)) (by first | omega | (simp; done) | (simp; omega) | (simp_all; omega)) ?_)
              clear E a S; rintro a w v_87 xs_88 E hr_89 S
              refine ⟨fun x hq hb => (agree_le hM_83 S.imm), ?_⟩
              refine D_v E rfl rfl rfl (fun w hC => (R_assign E rfl)) ?_
              clear E a; intro a E
              refine D_end (NoP_n ?_)
              refine B_n ?_
              refine T_n ?_
              refine WP_region ?_
              refine S_v E rfl (R_addx (m := ((k + 1 : Nat) : Int)) E rfl rfl (by omega) (by omega)) rfl ?_
              clear E a; intro a E
              refine S_v E rfl (R_move E rfl) rfl ?_
              clear E a; intro a E
              refine WL_nil ?_
              refine T_n ?_
              have S0 := S; clear S
              obtain ⟨M_90, hM_90, hz_91, S⟩ := S0.freezeR hr_89 RP2_mono (by (first | omega | (simp; omega) | (simp; done) | (simp_all; omega) | grind))
              clear S0
              replace h0 := h0.le RP2_mono hM_90
              replace hs3_0 := hs3_0.le RP2_mono hM_90
              replace hb_7 := hM_90.2 _ _ hb_7
              replace hv_8 := hv_8.le RP2_mono hM_90
              replace hv_75 := hv_75.le RP2_mono hM_90
              replace hv_76 := hv_76.le RP2_mono hM_90
              replace hv_82 := hv_82.le RP2_mono hM_90
              exact ⟨k + 1, ⟨M_90, _, (hM_1.trans (hM_6.trans (hM_9.trans (hM_18.trans (hM_83.trans hM_90))))), S, E.keep ⟨rfl, rfl, rfl, rfl, rfl, trivial⟩, by ((try clear S); (try clear E); first | assumption | omega | rfl | (simp; done) | (simp_all; done) | (simp [List.take_add_one, *]; done) | grind [List.take_add_one]), (SLeqR hz_91 (by first | exact ent_skip (by assumption) (in_all (by assumption) (by assumption)) | exact ent_put (by assumption) (in_none (by assumption) (by assumption)) (by assumption) (by first | exact gt_len (by assumption) | exact gt_at (by assumption) (by assumption))))⟩, by omega⟩
            · have hb_7k91 := hb_7
              replace S := S.mono_heap (w' := World.drew _) rfl
              refine DG_end (C := fun x w => agree M_18 w) (bf := (fun i => [])) [1, 2, 3, 5, 8, 9, 10, 12] [1, 2, 3, 5, 8, 9, 10, 0, 6, 4, 7, 11, 12] (by kernel_rfl) (fun x hq => S.imm) ?_
              refine D_v E rfl rfl rfl (fun w hC => (R_move E rfl)) ?_
              clear E a; intro a E
              refine D_v E rfl rfl rfl (fun w hC => (R_move E rfl)) ?_
              clear E a; intro a E
              obtain ⟨v_92, sv_92, hv_92⟩ := hs3_0.subv 0 n (by first | omega | (simp; done) | (simp; omega) | (simp_all; omega)) (by first | omega | (simp; done) | (simp; omega) | (simp_all; omega))
              simp only [List.drop_zero] at hv_92
              refine D_v E rfl rfl rfl (fun w hC => (R_sliceH E rfl rfl T61 sv_92 (by omega))) ?_
              clear E a; intro a E
              refine D_v E rfl rfl rfl (fun w hC => (R_loadGM E rfl (Try.isAgg119 _) (Try.sizeOf119 _) hC hb_7k91)) ?_
              clear E a; intro a E
              refine D_v E rfl rfl rfl (fun w hC => (R_move E rfl)) ?_
              clear E a; intro a E
              refine D_v E rfl rfl rfl (fun w hC => (R_move E rfl)) ?_
              clear E a; intro a E
              obtain ⟨v_93, sv_93, hv_93⟩ := hs3_0.subv n ((srtK Prod.fst (lastsT (l0.drop k) (l0.take k))).length) (by first | omega | (simp; done) | (simp; omega) | (simp_all; omega)) (by first | omega | (simp; done) | (simp; omega) | (simp_all; omega))
              simp only [List.take_length] at hv_93
              refine D_v E rfl rfl rfl (fun w hC => (R_sliceL E rfl rfl T61 hs3_0.len sv_93 (by omega))) ?_
              clear E a; intro a E
              refine D_x rfl rfl rfl (X_buildA0 E S rfl T61 ?_)
              clear E a S; rintro a w v_94 E S
              have hr_95 : RowsR RP2 2 M_18 ([] : List (Int × Int)) [] := RowsR.nil
              replace S : St w M_18 (OwnC 119 2 v_94 ([] : List (Int × Int)).length [] :: _) := S
              refine ⟨fun x hq hb => (agree_le (Hp.le.refl _) S.imm), ?_⟩
              refine D_x rfl rfl rfl (X_buildA1 (R := RP2) (cs := [.int .i64 x_3.1, .int .i64 x_3.2]) (x0 := x_3) RP2_mono E S rfl T61 rfl rfl rfl rfl ?_)
              clear E a S; rintro a v_96 w M_97 hM_97 hv_96 S E
              replace h0 := h0.le RP2_mono hM_97
              replace hs3_0 := hs3_0.le RP2_mono hM_97
              replace hb_7 := hM_97.2 _ _ hb_7
              replace hv_8 := hv_8.le RP2_mono hM_97
              replace hv_92 := hv_92.le RP2_mono hM_97
              replace hv_93 := hv_93.le RP2_mono hM_97
              replace hr_95 := hr_95.le RP2_mono hM_97
              refine ⟨fun x hq hb => (agree_le hM_97 S.imm), ?_⟩
              refine D_x rfl rfl rfl (X_appendR (R := RP2) (zs := ([] : List (Int × Int))) (ys := (srtK Prod.fst (lastsT (l0.drop k) (l0.take k))).take n) E S hr_95 rfl rfl rfl T61 hv_92 one_RP2 (by first | omega | (simp; done) | (simp; omega) | (simp_all; omega)) (by first | omega | (simp; done) | (simp; omega) | (simp_all; omega)) ?_)
              clear E a S; rintro a w v_98 xs_99 E hr_100 S
              refine ⟨fun x hq hb => (agree_le hM_97 S.imm), ?_⟩
              refine D_x rfl rfl rfl (X_appendR (R := RP2) (zs := ([] : List (Int × Int)) ++ ((srtK Prod.fst (lastsT (l0.drop k) (l0.take k))).take n)) (ys := [x_3]) E S hr_100 rfl rfl rfl T61 hv_96 one_RP2 (by first | omega | (simp; done) | (simp; omega) | (simp_all; omega)) (by first | omega | (simp; done) | (simp; omega) | (simp_all; omega)) ?_)
              clear E a S; rintro a w v_101 xs_102 E hr_103 S
              refine ⟨fun x hq hb => (agree_le hM_97 S.imm), ?_⟩
              refine D_x rfl rfl rfl (X_appendR (R := RP2) (zs := (([] : List (Int × Int)) ++ ((srtK Prod.fst (lastsT (l0.drop k) (l0.take k))).take n)) ++ [x_3]) (ys := (srtK Prod.fst (lastsT (l0.drop k) (l0.take k))).drop n) E S hr_103 rfl rfl rfl T61 hv_93 one_RP2 (by first | omega | (simp; done) | (simp; omega) | (simp_all; omega)) (by first | omega | (simp; done) | (simp; omega) | (simp_all; omega)) ?_)
              clear E a S; rintro a w v_104 xs_105 E hr_106 S
              refine ⟨fun x hq hb => (agree_le hM_97 S.imm), ?_⟩
              refine D_v E rfl rfl rfl (fun w hC => (R_assign E rfl)) ?_
              clear E a; intro a E
              refine D_end (NoP_n ?_)
              refine B_n ?_
              refine T_n ?_
              refine WP_region ?_
              refine S_v E rfl (R_addx (m := ((k + 1 : Nat) : Int)) E rfl rfl (by omega) (by omega)) rfl ?_
              clear E a; intro a E
              refine S_v E rfl (R_move E rfl) rfl ?_
              clear E a; intro a E
              refine WL_nil ?_
              refine T_n ?_
              have S0 := S; clear S
              obtain ⟨M_107, hM_107, hz_108, S⟩ := S0.freezeR hr_106 RP2_mono (by (first | omega | (simp; omega) | (simp; done) | (simp_all; omega) | grind))
              clear S0
              replace h0 := h0.le RP2_mono hM_107
              replace hs3_0 := hs3_0.le RP2_mono hM_107
              replace hb_7 := hM_107.2 _ _ hb_7
              replace hv_8 := hv_8.le RP2_mono hM_107
              replace hv_92 := hv_92.le RP2_mono hM_107
              replace hv_93 := hv_93.le RP2_mono hM_107
              replace hv_96 := hv_96.le RP2_mono hM_107
              exact ⟨k + 1, ⟨M_107, _, (hM_1.trans (hM_6.trans (hM_9.trans (hM_18.trans (hM_97.trans hM_107))))), S, E.keep ⟨rfl, rfl, rfl, rfl, rfl, trivial⟩, by ((try clear S); (try clear E); first | assumption | omega | rfl | (simp; done) | (simp_all; done) | (simp [List.take_add_one, *]; done) | grind [List.take_add_one]), (SLeqR hz_108 (by first | exact ent_skip (by assumption) (in_all (by assumption) (by assumption)) | exact ent_put (by assumption) (in_none (by assumption) (by assumption)) (by assumption) (by first | exact gt_len (by assumption) | exact gt_at (by assumption) (by assumption))))⟩, by omega⟩
          · have hb_7k108 := hb_7
            replace S := S.mono_heap (w' := World.drew _) rfl
            refine DG_end (C := fun x w => agree M_18 w) (bf := (fun i => [])) [1, 2, 3, 5, 8, 9, 10, 12] [1, 2, 3, 5, 8, 9, 10, 6, 0, 4, 7, 11, 12] (by kernel_rfl) (fun x hq => S.imm) ?_
            refine D_v E rfl rfl rfl (fun w hC => (R_move E rfl)) ?_
            clear E a; intro a E
            refine D_v E rfl rfl rfl (fun w hC => (R_move E rfl)) ?_
            clear E a; intro a E
            obtain ⟨v_109, sv_109, hv_109⟩ := hs3_0.subv 0 n (by first | omega | (simp; done) | (simp; omega) | (simp_all; omega)) (by first | omega | (simp; done) | (simp; omega) | (simp_all; omega))
            simp only [List.drop_zero] at hv_109
            refine D_v E rfl rfl rfl (fun w hC => (R_sliceH E rfl rfl T61 sv_109 (by omega))) ?_
            clear E a; intro a E
            refine D_v E rfl rfl rfl (fun w hC => (R_loadGM E rfl (Try.isAgg119 _) (Try.sizeOf119 _) hC hb_7k108)) ?_
            clear E a; intro a E
            refine D_v E rfl rfl rfl (fun w hC => (R_move E rfl)) ?_
            clear E a; intro a E
            refine D_v E rfl rfl rfl (fun w hC => (R_move E rfl)) ?_
            clear E a; intro a E
            obtain ⟨v_110, sv_110, hv_110⟩ := hs3_0.subv n ((srtK Prod.fst (lastsT (l0.drop k) (l0.take k))).length) (by first | omega | (simp; done) | (simp; omega) | (simp_all; omega)) (by first | omega | (simp; done) | (simp; omega) | (simp_all; omega))
            simp only [List.take_length] at hv_110
            refine D_v E rfl rfl rfl (fun w hC => (R_sliceL E rfl rfl T61 hs3_0.len sv_110 (by omega))) ?_
            clear E a; intro a E
            refine D_x rfl rfl rfl (X_buildA1 (R := RP2) (cs := [.int .i64 x_3.1, .int .i64 x_3.2]) (x0 := x_3) RP2_mono E S rfl T61 rfl rfl rfl rfl ?_)
            clear E a S; rintro a v_111 w M_112 hM_112 hv_111 S E
            replace h0 := h0.le RP2_mono hM_112
            replace hs3_0 := hs3_0.le RP2_mono hM_112
            replace hb_7 := hM_112.2 _ _ hb_7
            replace hv_8 := hv_8.le RP2_mono hM_112
            replace hv_109 := hv_109.le RP2_mono hM_112
            replace hv_110 := hv_110.le RP2_mono hM_112
            refine ⟨fun x hq hb => (agree_le hM_112 S.imm), ?_⟩
            refine D_x rfl rfl rfl (X_buildA0 E S rfl T61 ?_)
            clear E a S; rintro a w v_113 E S
            have hr_114 : RowsR RP2 2 M_112 ([] : List (Int × Int)) [] := RowsR.nil
            replace S : St w M_112 (OwnC 119 2 v_113 ([] : List (Int × Int)).length [] :: _) := S
            refine ⟨fun x hq hb => (agree_le hM_112 S.imm), ?_⟩
            refine D_x rfl rfl rfl (X_appendR (R := RP2) (zs := ([] : List (Int × Int))) (ys := (srtK Prod.fst (lastsT (l0.drop k) (l0.take k))).take n) E S hr_114 rfl rfl rfl T61 hv_109 one_RP2 (by first | omega | (simp; done) | (simp; omega) | (simp_all; omega)) (by first | omega | (simp; done) | (simp; omega) | (simp_all; omega)) ?_)
            clear E a S; rintro a w v_115 xs_116 E hr_117 S
            refine ⟨fun x hq hb => (agree_le hM_112 S.imm), ?_⟩
            refine D_x rfl rfl rfl (X_appendR (R := RP2) (zs := ([] : List (Int × Int)) ++ ((srtK Prod.fst (lastsT (l0.drop k) (l0.take k))).take n)) (ys := [x_3]) E S hr_117 rfl rfl rfl T61 hv_111 one_RP2 (by first | omega | (simp; done) | (simp; omega) | (simp_all; omega)) (by first | omega | (simp; done) | (simp; omega) | (simp_all; omega)) ?_)
            clear E a S; rintro a w v_118 xs_119 E hr_120 S
            refine ⟨fun x hq hb => (agree_le hM_112 S.imm), ?_⟩
            refine D_x rfl rfl rfl (X_appendR (R := RP2) (zs := (([] : List (Int × Int)) ++ ((srtK Prod.fst (lastsT (l0.drop k) (l0.take k))).take n)) ++ [x_3]) (ys := (srtK Prod.fst (lastsT (l0.drop k) (l0.take k))).drop n) E S hr_120 rfl rfl rfl T61 hv_110 one_RP2 (by first | omega | (simp; done) | (simp; omega) | (simp_all; omega)) (by first | omega | (simp; done) | (simp; omega) | (simp_all; omega)) ?_)
            clear E a S; rintro a w v_121 xs_122 E hr_123 S
            refine ⟨fun x hq hb => (agree_le hM_112 S.imm), ?_⟩
            refine D_v E rfl rfl rfl (fun w hC => (R_assign E rfl)) ?_
            clear E a; intro a E
            refine D_end (NoP_n ?_)
            refine B_n ?_
            refine T_n ?_
            refine WP_region ?_
            refine S_v E rfl (R_addx (m := ((k + 1 : Nat) : Int)) E rfl rfl (by omega) (by omega)) rfl ?_
            clear E a; intro a E
            refine S_v E rfl (R_move E rfl) rfl ?_
            clear E a; intro a E
            refine WL_nil ?_
            refine T_n ?_
            have S0 := S; clear S
            obtain ⟨M_124, hM_124, hz_125, S⟩ := S0.freezeR hr_123 RP2_mono (by (first | omega | (simp; omega) | (simp; done) | (simp_all; omega) | grind))
            clear S0
            replace h0 := h0.le RP2_mono hM_124
            replace hs3_0 := hs3_0.le RP2_mono hM_124
            replace hb_7 := hM_124.2 _ _ hb_7
            replace hv_8 := hv_8.le RP2_mono hM_124
            replace hv_109 := hv_109.le RP2_mono hM_124
            replace hv_110 := hv_110.le RP2_mono hM_124
            replace hv_111 := hv_111.le RP2_mono hM_124
            exact ⟨k + 1, ⟨M_124, _, (hM_1.trans (hM_6.trans (hM_9.trans (hM_18.trans (hM_112.trans hM_124))))), S, E.keep ⟨rfl, rfl, rfl, rfl, rfl, trivial⟩, by ((try clear S); (try clear E); first | assumption | omega | rfl | (simp; done) | (simp_all; done) | (simp [List.take_add_one, *]; done) | grind [List.take_add_one]), (SLeqR hz_125 (by first | exact ent_skip (by assumption) (in_all (by assumption) (by assumption)) | exact ent_put (by assumption) (in_none (by assumption) (by assumption)) (by assumption) (by first | exact gt_len (by assumption) | exact gt_at (by assumption) (by assumption))))⟩, by omega⟩
  · replace hc_2 := of_decide_eq_false hc_2
    refine WP_exit ?_
    refine T_x ?_
    refine T_x ?_
    refine B_x ?_
    refine T_n ?_
    refine WP_seq ?_
    refine WP_region ?_
    refine S_v E rfl (R_move E rfl) rfl ?_
    clear E a; intro a E
    refine S_v E rfl (R_assign E rfl) rfl ?_
    clear E a; intro a E
    refine WL_nil ?_
    refine T_n ?_
    refine WP_ret ?_
    exact F_ret1 E Try.results120 rfl ⟨_, rfl, M_1, hM_1, (by rw [show (entE l0) = (srtK Prod.fst (lastsT (l0.drop k) (l0.take k))) from by (rw [List.take_of_length_le (show l0.length ≤ k by omega), List.drop_eq_nil_of_le (show l0.length ≤ k by omega)]; first | exact entE_lasts l0 | exact (entE_lasts l0).symm)]; exact hs3_0), S⟩

set_option maxRecDepth 100000 in
set_option maxHeartbeats 4000000 in
theorem spec_Assign {M : Hp} {v0 : Value} {l0 : List (List (Int × Int))} (h0 : RdS 1 (RSl 2 RP2) M v0 l0) (hb : l0.flatten.length ≤ 1000000000000) (hbl : l0.length ≤ 1000000000000) :
    Pu Try.prog (.func (.func 63) #[] #[]) M [v0] (fun r M' => RdS 2 RP2 M' r (entE (l0).flatten)) := by
  refine Pu_enter Try.func63 rfl Try.ntmps63 rfl Try.call63 ?_
  intro a w M1 H hM1 S E
  replace h0 := h0.le (RSl_mono RP2_mono) hM1
  have b0 := h0.bound
  refine WP_seq ?_
  refine WP_region ?_
  refine S_v E rfl (R_assign E rfl) rfl ?_
  clear E a; intro a E
  refine WL_nil ?_
  refine T_n ?_
  refine WP_seq ?_
  refine WP_region ?_
  refine S_v E rfl (R_assign E rfl) rfl ?_
  clear E a; intro a E
  refine WL_nil ?_
  refine T_n ?_
  refine WP_seq ?_
  refine WP_seq ?_
  refine WP_region ?_
  refine S_v E rfl (R_move E rfl) rfl ?_
  clear E a; intro a E
  refine S_v E rfl (R_lenV E rfl T76 h0.len) rfl ?_
  clear E a; intro a E
  refine S_v E rfl (R_move E rfl) rfl ?_
  clear E a; intro a E
  refine WL_nil ?_
  refine T_n ?_
  refine WP_block ?_
  replace S : St w M1 (OwnC 119 2 (.slice none 0 0) ([] : List (Int × Int)).length [] :: _) := S.ownNil
  have hr_2 : RowsR RP2 2 M1 ([] : List (Int × Int)) [] := RowsR.nil
  have hre : ([] : List (Int × Int)) = ((l0.take 0).map entE).flatten := by first | (simp; done) | (rw [tk_snoc (by assumption), List.map_append, List.flatten_append]; simp)
  replace S := S.reR hre
  replace hr_2 := hr_2.eq hre
  clear hre
  refine WP_loop (γ := Nat) (fun (k : Nat) a w => ∃ (M_3 : Hp) (u3 : Value) (xs3 : List Value), Hp.le M1 M_3 ∧ St w M_3 (OwnC 119 2 u3 (((l0.take k).map entE).flatten).length xs3 :: H) ∧ Env a 19 [] [(3, u3), (6, v0), (7, .int .i64 (((l0).length : Nat) : Int)), (8, .int .i64 ((k : Nat) : Int))] ∧ (k ≤ (l0).length) ∧ RowsR RP2 2 M_3 (((l0.take k).map entE).flatten) xs3) (fun k => ((l0).length) - k) 0 ⟨M1, _, _, Hp.le.refl _, S, E.keep ⟨rfl, rfl, rfl, rfl, trivial⟩, by ((try clear S); (try clear E); first | assumption | omega | rfl | (simp; done) | (simp_all; done) | (simp [List.take_add_one, *]; done) | grind [List.take_add_one]), hr_2⟩ ?_
  try clear E
  try clear S
  try clear a
  try clear w
  rintro k a w ⟨M_3, u3, xs3, hM_3, S, E, hL0_0, hr3⟩
  replace h0 := h0.le (RSl_mono RP2_mono) hM_3
  have hfe := fl_ent l0 k
  refine WP_seq ?_
  refine WP_region ?_
  refine S_v E rfl (R_lss E rfl rfl) rfl ?_
  clear E a; intro a E
  refine WL_nil ?_
  refine T_n ?_
  refine WP_seq ?_
  refine WP_cond E rfl (fun hc_4 => ?_) (fun hc_4 => ?_)
  · replace hc_4 := of_decide_eq_true hc_4
    refine WP_skip ?_
    refine T_n ?_
    refine WP_seq ?_
    refine WP_block ?_
    refine WP_seq ?_
    refine WP_region ?_
    obtain ⟨x_5, hx_5⟩ : ∃ x, (l0)[k]? = some x := ⟨_, List.getElem?_eq_getElem (by first | omega | (simp; done) | (simp; omega) | (simp_all; omega))⟩
    obtain ⟨p_6, u_7, hp_6, qp_6, hu_7⟩ := RdPP.at h0 hx_5
    have bu_7 := hu_7.bound
    refine S_v E rfl (R_idx E rfl rfl T76 hp_6 rfl) rfl ?_
    clear E a; intro a E
    refine S_v E rfl (R_loadM E rfl Try.isAgg61 S.imm qp_6) rfl ?_
    clear E a; intro a E
    refine S_v E rfl (R_assign E rfl) rfl ?_
    clear E a; intro a E
    refine WL_nil ?_
    refine T_n ?_
    refine WP_region ?_
    refine S_v E rfl (R_move E rfl) rfl ?_
    clear E a; intro a E
    refine S_v E rfl (R_move E rfl) rfl ?_
    clear E a; intro a E
    refine S_x (X_pu E S rfl rfl rfl (spec_Entries hu_7 (by first | omega | (simp [ixm_len]; done) | (simp [ixm_len]; omega) | exact Nat.le_trans (fl_in (by assumption)) (by omega) | exact Nat.le_trans (kpix_len _ _ _) (by first | omega | (simp; omega)) | exact Nat.le_trans (fl_ent _ _) (by omega))) (Hp.le.refl _) ?_)
    clear E a S; rintro a v_9 w M_8 hM_8 hv_9 S E
    replace h0 := h0.le (RSl_mono RP2_mono) hM_8
    replace hr3 := hr3.le RP2_mono hM_8
    replace hu_7 := hu_7.le RP2_mono hM_8
    refine S_x (X_appendR (R := RP2) (zs := ((l0.take k).map entE).flatten) (ys := entE x_5) E S hr3 rfl rfl rfl T61 hv_9 one_RP2 (by (have h8 := fl_ent_lt (by assumption); omega)) (by (have h8 := fl_ent_lt (by assumption); omega)) ?_)
    clear E a S; rintro a w v_10 xs_11 E hr_12 S
    refine S_v E rfl (R_assign E rfl) rfl ?_
    clear E a; intro a E
    refine WL_nil ?_
    refine B_n ?_
    refine T_n ?_
    refine WP_region ?_
    refine S_v E rfl (R_addx (m := ((k + 1 : Nat) : Int)) E rfl rfl (by omega) (by omega)) rfl ?_
    clear E a; intro a E
    refine S_v E rfl (R_move E rfl) rfl ?_
    clear E a; intro a E
    refine WL_nil ?_
    refine T_n ?_
    have hre : (((l0.take k).map entE).flatten) ++ (entE x_5) = ((l0.take (k + 1)).map entE).flatten := by first | (simp; done) | (rw [tk_snoc (by assumption), List.map_append, List.flatten_append]; simp)
    replace S := S.reR hre
    replace hr_12 := hr_12.eq hre
    clear hre
    exact ⟨k + 1, ⟨M_8, _, _, (hM_3.trans hM_8), S, E.keep ⟨rfl, rfl, rfl, rfl, trivial⟩, by ((try clear S); (try clear E); first | assumption | omega | rfl | (simp; done) | (simp_all; done) | (simp [List.take_add_one, *]; done) | grind [List.take_add_one]), hr_12⟩, by omega⟩
  · replace hc_4 := of_decide_eq_false hc_4
    refine WP_exit ?_
    refine T_x ?_
    refine T_x ?_
    refine B_x ?_
    refine T_n ?_
    refine WP_seq ?_
    refine WP_region ?_
    refine S_v E rfl (R_move E rfl) rfl ?_
    clear E a; intro a E
    have S0 := S; clear S
    obtain ⟨M_13, hM_13, hz_14, S⟩ := S0.freezeR hr3 RP2_mono (by (first | omega | (have hfe := fl_ent l0 k; omega)))
    clear S0
    replace h0 := h0.le (RSl_mono RP2_mono) hM_13
    refine S_x (X_pu E S rfl rfl rfl (spec_Entries hz_14 (by first | omega | (simp [ixm_len]; done) | (simp [ixm_len]; omega) | exact Nat.le_trans (fl_in (by assumption)) (by omega) | exact Nat.le_trans (kpix_len _ _ _) (by first | omega | (simp; omega)) | exact Nat.le_trans (fl_ent _ _) (by omega))) (Hp.le.refl _) ?_)
    clear E a S; rintro a v_16 w M_15 hM_15 hv_16 S E
    replace h0 := h0.le (RSl_mono RP2_mono) hM_15
    replace hz_14 := hz_14.le RP2_mono hM_15
    refine S_v E rfl (R_assign E rfl) rfl ?_
    clear E a; intro a E
    refine WL_nil ?_
    refine T_n ?_
    refine WP_ret ?_
    exact F_ret1 E Try.results63 rfl ⟨_, rfl, M_15, (hM_3.trans (hM_13.trans hM_15)), (by rw [show (entE (l0).flatten) = (entE (((l0.take k).map entE).flatten)) from by (rw [List.take_of_length_le (by omega)]; first | exact ent_ext (lk_flat_ent _) | exact (ent_ext (lk_flat_ent _)).symm)]; exact hv_16), S⟩

set_option maxRecDepth 100000 in
set_option maxHeartbeats 4000000 in
theorem laws_eqRef {M : Hp} {v0 : Value} {l0 : List (Int × Int)} (h0 : RdS 2 RP2 M v0 l0) {v1 : Value} {l1 : List (Int × Int)} (h1 : RdS 2 RP2 M v1 l1) :
    Pu Try.prog (.func (.func 48) #[] #[]) M [v0, v1] (fun r M' => r = .bool (decide (l0 = l1))) := by
  refine Pu_enter Try.func48 rfl Try.ntmps48 rfl Try.call48 ?_
  intro a w M1 H hM1 S E
  replace h0 := h0.le RP2_mono hM1
  replace h1 := h1.le RP2_mono hM1
  have b0 := h0.bound
  have b1 := h1.bound
  refine WP_seq ?_
  refine WP_region ?_
  refine S_v E rfl (R_assign E rfl) rfl ?_
  clear E a; intro a E
  refine WL_nil ?_
  refine T_n ?_
  refine WP_seq ?_
  refine WP_seq ?_
  refine WP_region ?_
  refine S_v E rfl (R_move E rfl) rfl ?_
  clear E a; intro a E
  refine S_v E rfl (R_lenV E rfl T33 h0.len) rfl ?_
  clear E a; intro a E
  refine S_v E rfl (R_move E rfl) rfl ?_
  clear E a; intro a E
  refine S_v E rfl (R_lenV E rfl T61 h1.len) rfl ?_
  clear E a; intro a E
  refine S_v E rfl (R_neq E rfl rfl) rfl ?_
  clear E a; intro a E
  refine WL_nil ?_
  refine T_n ?_
  refine WP_cond E rfl (fun hc_1 => ?_) (fun hc_1 => ?_)
  · replace hc_1 := of_decide_eq_true hc_1
    refine WP_seq ?_
    refine WP_region ?_
    refine S_v E rfl (R_assign E rfl) rfl ?_
    clear E a; intro a E
    refine WL_nil ?_
    refine T_n ?_
    refine WP_ret ?_
    refine T_r ?_
    exact F_ret1 E Try.results48 rfl ⟨_, rfl, M1, (Hp.le.refl _), (bF (by (first | (simp; done) | exact eqp_no (by assumption) (by assumption) (p2_ne (by assumption)) | (have h9 : l0.take k = l1.take k := (by assumption); rwa [List.take_of_length_le (by omega), List.take_of_length_le (by omega)] at h9) | (intro h9; subst h9; omega) | (intro h9; subst h9; simp_all; done)))), S⟩
  · replace hc_1 := of_decide_eq_false hc_1
    refine WP_skip ?_
    refine T_n ?_
    refine WP_seq ?_
    refine WP_seq ?_
    refine WP_region ?_
    refine S_v E rfl (R_move E rfl) rfl ?_
    clear E a; intro a E
    refine S_v E rfl (R_lenV E rfl T33 h0.len) rfl ?_
    clear E a; intro a E
    refine S_v E rfl (R_move E rfl) rfl ?_
    clear E a; intro a E
    refine WL_nil ?_
    refine T_n ?_
    refine WP_block ?_
    refine WP_loop (γ := Nat) (fun (k : Nat) a w => ∃ (M_2 : Hp), Hp.le M1 M_2 ∧ St w M_2 (H) ∧ Env a 26 [] [(0, v0), (1, v1), (12, .int .i64 (((l0).length : Nat) : Int)), (13, .int .i64 ((k : Nat) : Int))] ∧ (k ≤ (l0).length) ∧ (l0.length = l1.length) ∧ (l0.take k = l1.take k)) (fun k => ((l0).length) - k) 0 ⟨M1, Hp.le.refl _, S, E.keep ⟨rfl, rfl, rfl, rfl, trivial⟩, by ((try clear S); (try clear E); first | assumption | omega | rfl | (simp; done) | (simp_all; done) | (simp [List.take_add_one, *]; done) | grind [List.take_add_one]), by ((try clear S); (try clear E); first | assumption | omega | rfl | (simp; done) | (simp_all; done) | (simp [List.take_add_one, *]; done) | grind [List.take_add_one]), by ((try clear S); (try clear E); first | assumption | omega | rfl | (simp; done) | (simp_all; done) | (simp [List.take_add_one, *]; done) | grind [List.take_add_one])⟩ ?_
    try clear E
    try clear S
    try clear a
    try clear w
    rintro k a w ⟨M_2, hM_2, S, E, hL0_0, hL0_1, hL0_2⟩
    replace h0 := h0.le RP2_mono hM_2
    replace h1 := h1.le RP2_mono hM_2
    refine WP_seq ?_
    refine WP_region ?_
    refine S_v E rfl (R_lss E rfl rfl) rfl ?_
    clear E a; intro a E
    refine WL_nil ?_
    refine T_n ?_
    refine WP_seq ?_
    refine WP_cond E rfl (fun hc_3 => ?_) (fun hc_3 => ?_)
    · replace hc_3 := of_decide_eq_true hc_3
      refine WP_skip ?_
      refine T_n ?_
      refine WP_seq ?_
      refine WP_block ?_
      refine WP_seq ?_
      refine WP_region ?_
      refine S_v E rfl (R_move E rfl) rfl ?_
      clear E a; intro a E
      refine S_v E rfl (R_assign E rfl) rfl ?_
      clear E a; intro a E
      refine WL_nil ?_
      refine T_n ?_
      refine WP_seq ?_
      replace S := S.mono_heap (w' := World.drew _) rfl
      refine WP_drawn (C := fun x w => agree M_2 w) (bf := (fun i => [])) [0, 1, 2, 3, 4, 5, 6, 7, 8] [0, 1, 2, 3, 4, 5, 6, 7, 8] Try.mixed (by kernel_rfl) (fun x hq => S.imm) ?_
      refine D_v E rfl rfl rfl (fun w hC => (R_move E rfl)) ?_
      clear E a; intro a E
      refine D_v E rfl rfl rfl (fun w hC => (R_move E rfl)) ?_
      clear E a; intro a E
      obtain ⟨x_4, hx_4⟩ : ∃ x, (l0)[k]? = some x := ⟨_, List.getElem?_eq_getElem (by first | omega | (simp; done) | (simp; omega) | (simp_all; omega))⟩
      obtain ⟨p_5, hp_5, qp_5⟩ := RdP2.at h0 hx_4
      refine D_v E rfl rfl rfl (fun w hC => (R_idx E rfl rfl T33 hp_5 rfl)) ?_
      clear E a; intro a E
      refine D_v E rfl rfl rfl (fun w hC => (R_loadA (cs := [.int .i64 x_4.1, .int .i64 x_4.2]) E rfl (Try.isAgg59 _) (Try.sizeOf59 _) hC qp_5)) ?_
      clear E a; intro a E
      refine D_v E rfl rfl rfl (fun w hC => (R_move E rfl)) ?_
      clear E a; intro a E
      refine D_v E rfl rfl rfl (fun w hC => (R_move E rfl)) ?_
      clear E a; intro a E
      obtain ⟨x_6, hx_6⟩ : ∃ x, (l1)[k]? = some x := ⟨_, List.getElem?_eq_getElem (by first | omega | (simp; done) | (simp; omega) | (simp_all; omega))⟩
      obtain ⟨p_7, hp_7, qp_7⟩ := RdP2.at h1 hx_6
      refine D_v E rfl rfl rfl (fun w hC => (R_idx E rfl rfl T61 hp_7 rfl)) ?_
      clear E a; intro a E
      refine D_v E rfl rfl rfl (fun w hC => (R_loadA (cs := [.int .i64 x_6.1, .int .i64 x_6.2]) E rfl (Try.isAgg119 _) (Try.sizeOf119 _) hC qp_7)) ?_
      clear E a; intro a E
      refine D_v E rfl rfl rfl (fun w hC => (R_neqA E rfl rfl (by kernel_rfl) (EQ119 x_4.1 x_4.2 x_6.1 x_6.2 _))) ?_
      clear E a; intro a E
      refine D_end (NoP_n ?_)
      refine T_n ?_
      refine WP_cond E rfl (fun hc_8 => ?_) (fun hc_8 => ?_)
      · replace hc_8 := of_decide_eq_true hc_8
        refine WP_seq ?_
        refine WP_region ?_
        refine S_v E rfl (R_assign E rfl) rfl ?_
        clear E a; intro a E
        refine WL_nil ?_
        refine T_n ?_
        refine WP_ret ?_
        refine B_r ?_
        refine T_r ?_
        refine T_r ?_
        refine B_r ?_
        refine T_r ?_
        exact F_ret1 E Try.results48 rfl ⟨_, rfl, M_2, hM_2, (bF (by (first | (simp; done) | exact eqp_no (by assumption) (by assumption) (p2_ne (by assumption)) | (have h9 : l0.take k = l1.take k := (by assumption); rwa [List.take_of_length_le (by omega), List.take_of_length_le (by omega)] at h9) | (intro h9; subst h9; omega) | (intro h9; subst h9; simp_all; done)))), S⟩
      · replace hc_8 := of_decide_eq_false hc_8
        refine WP_skip ?_
        refine B_n ?_
        refine T_n ?_
        refine WP_region ?_
        refine S_v E rfl (R_addx (m := ((k + 1 : Nat) : Int)) E rfl rfl (by omega) (by omega)) rfl ?_
        clear E a; intro a E
        refine S_v E rfl (R_move E rfl) rfl ?_
        clear E a; intro a E
        refine WL_nil ?_
        refine T_n ?_
        exact ⟨k + 1, ⟨M_2, hM_2, S, E.keep ⟨rfl, rfl, rfl, rfl, trivial⟩, by ((try clear S); (try clear E); first | assumption | omega | rfl | (simp; done) | (simp_all; done) | (simp [List.take_add_one, *]; done) | grind [List.take_add_one]), by ((try clear S); (try clear E); first | assumption | omega | rfl | (simp; done) | (simp_all; done) | (simp [List.take_add_one, *]; done) | grind [List.take_add_one]), (by exact eqp_step (by assumption) (by assumption) (by assumption) (p2_eq (by first | assumption | exact Decidable.not_not.1 (by assumption))))⟩, by omega⟩
    · replace hc_3 := of_decide_eq_false hc_3
      refine WP_exit ?_
      refine T_x ?_
      refine T_x ?_
      refine B_x ?_
      refine T_n ?_
      refine WP_seq ?_
      refine WP_region ?_
      refine S_v E rfl (R_assign E rfl) rfl ?_
      clear E a; intro a E
      refine WL_nil ?_
      refine T_n ?_
      refine WP_ret ?_
      exact F_ret1 E Try.results48 rfl ⟨_, rfl, M_2, hM_2, (bT (by (first | (simp; done) | exact eqp_no (by assumption) (by assumption) (p2_ne (by assumption)) | (have h9 : l0.take k = l1.take k := (by assumption); rwa [List.take_of_length_le (by omega), List.take_of_length_le (by omega)] at h9) | (intro h9; subst h9; omega) | (intro h9; subst h9; simp_all; done)))), S⟩

set_option maxRecDepth 100000 in
set_option maxHeartbeats 4000000 in
theorem spec_ValueOr {M : Hp} {v0 : Value} {l0 : List (Int × Int)} (h0 : RdS 2 RP2 M v0 l0) {x1 x2 : Int} :
    Pu Try.prog (.func (.func 65) #[] #[]) M [v0, .int .i64 x1, .int .i64 x2] (fun r M' => r = .int .i64 ((lkE l0 x1).getD x2)) := by
  refine Pu_enter Try.func65 rfl Try.ntmps65 rfl Try.call65 ?_
  intro a w M1 H hM1 S E
  replace h0 := h0.le RP2_mono hM1
  have b0 := h0.bound
  refine WP_seq ?_
  refine WP_region ?_
  refine S_v E rfl (R_assign E rfl) rfl ?_
  clear E a; intro a E
  refine WL_nil ?_
  refine T_n ?_
  refine WP_seq ?_
  refine WP_seq ?_
  refine WP_region ?_
  refine S_v E rfl (R_move E rfl) rfl ?_
  clear E a; intro a E
  refine S_v E rfl (R_lenV E rfl T61 h0.len) rfl ?_
  clear E a; intro a E
  refine S_v E rfl (R_move E rfl) rfl ?_
  clear E a; intro a E
  refine WL_nil ?_
  refine T_n ?_
  refine WP_block ?_
  refine WP_loop (γ := Nat) (fun (k : Nat) a w => ∃ (M_1 : Hp), Hp.le M1 M_1 ∧ St w M_1 (H) ∧ Env a 23 [] [(1, .int .i64 x1), (2, .int .i64 ((lkE (l0.take k) x1).getD x2)), (9, v0), (10, .int .i64 (((l0).length : Nat) : Int)), (11, .int .i64 ((k : Nat) : Int))] ∧ (k ≤ (l0).length)) (fun k => ((l0).length) - k) 0 ⟨M1, Hp.le.refl _, S, E.keep ⟨rfl, look_int (i := x2) rfl (by (rfl)), rfl, rfl, rfl, trivial⟩, by ((try clear S); (try clear E); first | assumption | omega | rfl | (simp; done) | (simp_all; done) | (simp [List.take_add_one, *]; done) | grind [List.take_add_one])⟩ ?_
  try clear E
  try clear S
  try clear a
  try clear w
  rintro k a w ⟨M_1, hM_1, S, E, hL0_0⟩
  replace h0 := h0.le RP2_mono hM_1
  refine WP_seq ?_
  refine WP_region ?_
  refine S_v E rfl (R_lss E rfl rfl) rfl ?_
  clear E a; intro a E
  refine WL_nil ?_
  refine T_n ?_
  refine WP_seq ?_
  refine WP_cond E rfl (fun hc_2 => ?_) (fun hc_2 => ?_)
  · replace hc_2 := of_decide_eq_true hc_2
    refine WP_skip ?_
    refine T_n ?_
    refine WP_seq ?_
    refine WP_block ?_
    refine WP_seq ?_
    refine WP_region ?_
    obtain ⟨x_3, hx_3⟩ : ∃ x, (l0)[k]? = some x := ⟨_, List.getElem?_eq_getElem (by first | omega | (simp; done) | (simp; omega) | (simp_all; omega))⟩
    obtain ⟨p_4, hp_4, qp_4⟩ := RdP2.at h0 hx_3
    refine S_v E rfl (R_idx E rfl rfl T61 hp_4 rfl) rfl ?_
    clear E a; intro a E
    refine S_v E rfl (R_loadA (cs := [.int .i64 x_3.1, .int .i64 x_3.2]) E rfl (Try.isAgg119 _) (Try.sizeOf119 _) S.imm qp_4) rfl ?_
    clear E a; intro a E
    refine S_x (X_alloc (cs := #[.int .i64 0, .int .i64 0]) E S rfl Try.zeroValue119 rfl ?_)
    clear E a S; rintro a w b_5 E S
    refine S_x0 (X_storeG (us := [.int .i64 x_3.1, .int .i64 x_3.2]) E S rfl rfl (Try.sizeOf119 _) rfl (by intro u hu; simp only [List.mem_cons, List.not_mem_nil, or_false] at hu; rcases hu with rfl | rfl <;> first | exact rfl | exact rfl) ?_)
    clear E a S; rintro a w E S
    replace S : St w M_1 (blk b_5 (.cells #[.int .i64 x_3.1, .int .i64 x_3.2] 119) :: _) := S
    have S0 := S; clear S
    obtain ⟨M_6, hM_6, hb_7, S⟩ := S0.freezeB
    clear S0
    replace h0 := h0.le RP2_mono hM_6
    refine WL_nil ?_
    refine T_n ?_
    refine WP_seq ?_
    refine WP_region ?_
    refine S_v E rfl (R_fieldAddr E rfl (FA119_0 _)) rfl ?_
    clear E a; intro a E
    refine S_v E rfl (R_loadM E rfl Try.isAgg3 S.imm (cellM_boxo hb_7 rfl)) rfl ?_
    clear E a; intro a E
    refine S_v E rfl (R_move E rfl) rfl ?_
    clear E a; intro a E
    refine S_v E rfl (R_eql E rfl rfl) rfl ?_
    clear E a; intro a E
    refine WL_nil ?_
    refine T_n ?_
    refine WP_cond E rfl (fun hc_8 => ?_) (fun hc_8 => ?_)
    · replace hc_8 := of_decide_eq_true hc_8
      refine WP_region ?_
      refine S_v E rfl (R_fieldAddr E rfl (FA119_1 _)) rfl ?_
      clear E a; intro a E
      refine S_v E rfl (R_loadM E rfl Try.isAgg3 S.imm (cellM_boxo hb_7 rfl)) rfl ?_
      clear E a; intro a E
      refine S_v E rfl (R_assign E rfl) rfl ?_
      clear E a; intro a E
      refine WL_nil ?_
      refine B_n ?_
      refine T_n ?_
      refine WP_region ?_
      refine S_v E rfl (R_addx (m := ((k + 1 : Nat) : Int)) E rfl rfl (by omega) (by omega)) rfl ?_
      clear E a; intro a E
      refine S_v E rfl (R_move E rfl) rfl ?_
      clear E a; intro a E
      refine WL_nil ?_
      refine T_n ?_
      exact ⟨k + 1, ⟨M_6, (hM_1.trans hM_6), S, E.keep ⟨rfl, look_int (i := x_3.2) rfl (by (first | exact vo_step (by assumption) (by assumption) | exact vo_stay (by assumption) (by assumption))), rfl, rfl, rfl, trivial⟩, by ((try clear S); (try clear E); first | assumption | omega | rfl | (simp; done) | (simp_all; done) | (simp [List.take_add_one, *]; done) | grind [List.take_add_one])⟩, by omega⟩
    · replace hc_8 := of_decide_eq_false hc_8
      refine WP_skip ?_
      refine B_n ?_
      refine T_n ?_
      refine WP_region ?_
      refine S_v E rfl (R_addx (m := ((k + 1 : Nat) : Int)) E rfl rfl (by omega) (by omega)) rfl ?_
      clear E a; intro a E
      refine S_v E rfl (R_move E rfl) rfl ?_
      clear E a; intro a E
      refine WL_nil ?_
      refine T_n ?_
      exact ⟨k + 1, ⟨M_6, (hM_1.trans hM_6), S, E.keep ⟨rfl, look_int (i := (lkE (l0.take k) x1).getD x2) rfl (by (first | exact vo_step (by assumption) (by assumption) | exact vo_stay (by assumption) (by assumption))), rfl, rfl, rfl, trivial⟩, by ((try clear S); (try clear E); first | assumption | omega | rfl | (simp; done) | (simp_all; done) | (simp [List.take_add_one, *]; done) | grind [List.take_add_one])⟩, by omega⟩
  · replace hc_2 := of_decide_eq_false hc_2
    refine WP_exit ?_
    refine T_x ?_
    refine T_x ?_
    refine B_x ?_
    refine T_n ?_
    refine WP_seq ?_
    refine WP_region ?_
    refine S_v E rfl (R_move E rfl) rfl ?_
    clear E a; intro a E
    refine S_v E rfl (R_assign E rfl) rfl ?_
    clear E a; intro a E
    refine WL_nil ?_
    refine T_n ?_
    refine WP_ret ?_
    exact F_ret1 E Try.results65 rfl ⟨_, rfl, M_1, hM_1, (congrArg (Value.int .i64) (by (rw [List.take_of_length_le (by omega)]))), S⟩

set_option maxRecDepth 100000 in
set_option maxHeartbeats 4000000 in
theorem laws_FnAssigned {M : Hp} {v0 : Value} {l0 : List (Int × Int)} (h0 : RdS 2 RP2 M v0 l0) {v1 : Value} {l1 : List (Int × Int)} (h1 : RdS 2 RP2 M v1 l1) {v2 : Value} {l2 : List (Int × Int)} (h2 : RdS 2 RP2 M v2 l2) {x3 x4 : Int} :
    PuC Try.prog 8 M [v0, v1, v2, .int .i64 x3, .int .i64 x4] (fun r M' => r = .bool true) := by
  refine PuC_enter Try.func8 rfl Try.ntmps8 rfl ?_
  intro a w M1 H hM1 S E
  replace h0 := h0.le RP2_mono hM1
  replace h1 := h1.le RP2_mono hM1
  replace h2 := h2.le RP2_mono hM1
  have b0 := h0.bound
  have b1 := h1.bound
  have b2 := h2.bound
  refine WP_seq ?_
  refine WP_region ?_
  refine S_v E rfl (R_assign E rfl) rfl ?_
  clear E a; intro a E
  refine WL_nil ?_
  refine T_n ?_
  refine WP_seq ?_
  refine WP_seq ?_
  refine WP_region ?_
  refine S_v E rfl (R_move E rfl) rfl ?_
  clear E a; intro a E
  refine S_v E rfl (R_lenV E rfl T33 h0.len) rfl ?_
  clear E a; intro a E
  refine S_v E rfl (R_gtr E rfl rfl) rfl ?_
  clear E a; intro a E
  refine S_v E rfl (R_move E rfl) rfl ?_
  clear E a; intro a E
  refine split_bool (decide (2147483647 < (((l0).length : Nat) : Int))) (fun hc_1 => ?_) (fun hc_1 => ?_)
  · replace E := E.val (t := 16) rfl hc_1
    replace E := E.val (t := 17) rfl hc_1
    replace hc_1 := of_decide_eq_true hc_1
    refine WL_guard_no E rfl rfl rfl rfl fun a E => ?_
    refine WL_guard_no E rfl rfl rfl rfl fun a E => ?_
    refine WL_guard_no E rfl rfl rfl rfl fun a E => ?_
    refine S_v E rfl (R_pickT E rfl rfl) rfl ?_
    clear E a; intro a E
    refine S_v E rfl (R_move E rfl) rfl ?_
    clear E a; intro a E
    refine WL_guard_no E rfl rfl rfl rfl fun a E => ?_
    refine WL_guard_no E rfl rfl rfl rfl fun a E => ?_
    refine WL_guard_no E rfl rfl rfl rfl fun a E => ?_
    refine S_v E rfl (R_pickT E rfl rfl) rfl ?_
    clear E a; intro a E
    refine WL_nil ?_
    refine T_n ?_
    refine WP_condT E rfl rfl ?_
    refine WP_seq ?_
    refine WP_region ?_
    refine S_v E rfl (R_assign E rfl) rfl ?_
    clear E a; intro a E
    refine WL_nil ?_
    refine T_n ?_
    refine WP_ret ?_
    refine T_r ?_
    exact F_ret1 E Try.results8 rfl ⟨_, rfl, M1, (Hp.le.refl _), rfl, S⟩
  · replace E := E.val (t := 16) rfl hc_1
    replace E := E.val (t := 17) rfl hc_1
    replace hc_1 := of_decide_eq_false hc_1
    refine WL_guard_yes E rfl rfl ?_
    refine S_v E rfl (R_move E rfl) rfl ?_
    clear E a; intro a E
    refine WL_guard_yes E rfl rfl ?_
    refine S_v E rfl (R_lenV E rfl T33 h1.len) rfl ?_
    clear E a; intro a E
    refine WL_guard_yes E rfl rfl ?_
    refine S_v E rfl (R_gtr E rfl rfl) rfl ?_
    clear E a; intro a E
    refine S_v E rfl (R_pickF E rfl rfl) rfl ?_
    clear E a; intro a E
    refine S_v E rfl (R_move E rfl) rfl ?_
    clear E a; intro a E
    refine split_bool (decide (2147483647 < (((l1).length : Nat) : Int))) (fun hc_2 => ?_) (fun hc_2 => ?_)
    · replace E := E.val (t := 20) rfl hc_2
      replace E := E.val (t := 21) rfl hc_2
      replace E := E.val (t := 22) rfl hc_2
      replace hc_2 := of_decide_eq_true hc_2
      refine WL_guard_no E rfl rfl rfl rfl fun a E => ?_
      refine WL_guard_no E rfl rfl rfl rfl fun a E => ?_
      refine WL_guard_no E rfl rfl rfl rfl fun a E => ?_
      refine S_v E rfl (R_pickT E rfl rfl) rfl ?_
      clear E a; intro a E
      refine WL_nil ?_
      refine T_n ?_
      refine WP_condT E rfl rfl ?_
      refine WP_seq ?_
      refine WP_region ?_
      refine S_v E rfl (R_assign E rfl) rfl ?_
      clear E a; intro a E
      refine WL_nil ?_
      refine T_n ?_
      refine WP_ret ?_
      refine T_r ?_
      exact F_ret1 E Try.results8 rfl ⟨_, rfl, M1, (Hp.le.refl _), rfl, S⟩
    · replace E := E.val (t := 20) rfl hc_2
      replace E := E.val (t := 21) rfl hc_2
      replace E := E.val (t := 22) rfl hc_2
      replace hc_2 := of_decide_eq_false hc_2
      refine WL_guard_yes E rfl rfl ?_
      refine S_v E rfl (R_move E rfl) rfl ?_
      clear E a; intro a E
      refine WL_guard_yes E rfl rfl ?_
      refine S_v E rfl (R_lenV E rfl T33 h2.len) rfl ?_
      clear E a; intro a E
      refine WL_guard_yes E rfl rfl ?_
      refine S_v E rfl (R_gtr E rfl rfl) rfl ?_
      clear E a; intro a E
      refine S_v E rfl (R_pickF E rfl rfl) rfl ?_
      clear E a; intro a E
      refine WL_nil ?_
      refine T_n ?_
      refine WP_cond E rfl (fun hc_3 => ?_) (fun hc_3 => ?_)
      · replace hc_3 := of_decide_eq_true hc_3
        refine WP_seq ?_
        refine WP_region ?_
        refine S_v E rfl (R_assign E rfl) rfl ?_
        clear E a; intro a E
        refine WL_nil ?_
        refine T_n ?_
        refine WP_ret ?_
        refine T_r ?_
        exact F_ret1 E Try.results8 rfl ⟨_, rfl, M1, (Hp.le.refl _), rfl, S⟩
      · replace hc_3 := of_decide_eq_false hc_3
        refine WP_skip ?_
        refine T_n ?_
        refine WP_seq ?_
        refine WP_seq ?_
        refine WP_region ?_
        refine S_v E rfl (R_build (u := .agg #[.int .i64 1, .int .i64 0]) (vs := [.int .i64 1]) E rfl (fun w => FB59_0_i 1 w)) rfl ?_
        clear E a; intro a E
        refine S_x (X_buildA1 (R := RP2) (cs := [.int .i64 1, .int .i64 0]) (x0 := (1, 0)) RP2_mono E S rfl T33 rfl rfl rfl rfl ?_)
        clear E a S; rintro a v_4 w M_5 hM_5 hv_4 S E
        replace h0 := h0.le RP2_mono hM_5
        replace h1 := h1.le RP2_mono hM_5
        replace h2 := h2.le RP2_mono hM_5
        refine S_v E rfl (R_build (u := .agg #[.int .i64 2, .int .i64 0]) (vs := [.int .i64 2]) E rfl (fun w => FB59_0_i 2 w)) rfl ?_
        clear E a; intro a E
        refine S_x (X_buildA1 (R := RP2) (cs := [.int .i64 2, .int .i64 0]) (x0 := (2, 0)) RP2_mono E S rfl T33 rfl rfl rfl rfl ?_)
        clear E a S; rintro a v_6 w M_7 hM_7 hv_6 S E
        replace h0 := h0.le RP2_mono hM_7
        replace h1 := h1.le RP2_mono hM_7
        replace h2 := h2.le RP2_mono hM_7
        replace hv_4 := hv_4.le RP2_mono hM_7
        refine S_x (X_buildM (R := (RSl 2 RP2)) (vs := [v_4, v_6]) (xs := [[(1, 0)], [(2, 0)]]) (RSl_mono RP2_mono) E S rfl T70 rfl rfl rfl (by intro u hu; simp only [List.mem_cons, List.not_mem_nil, or_false] at hu; rcases hu with rfl | rfl <;> first | exact RdS.one' hv_4 | exact RdS.one' hv_6) rfl (rowsC (R := (RSl 2 RP2)) ⟨_, rfl, hv_4⟩ (rowsC (R := (RSl 2 RP2)) ⟨_, rfl, hv_6⟩ rowsN)) ?_)
        clear E a S; rintro a v_8 w M_9 hM_9 hv_8 S E
        replace h0 := h0.le RP2_mono hM_9
        replace h1 := h1.le RP2_mono hM_9
        replace h2 := h2.le RP2_mono hM_9
        replace hv_4 := hv_4.le RP2_mono hM_9
        replace hv_6 := hv_6.le RP2_mono hM_9
        refine S_x (X_pu E S rfl rfl rfl (impl_Assign hv_8 (by first | omega | (simp; done) | (simp; omega)) (by first | omega | (simp; done) | (simp; omega))) (Hp.le.refl _) ?_)
        clear E a S; rintro a v_11 w M_10 hM_10 hv_11 S E
        replace h0 := h0.le RP2_mono hM_10
        replace h1 := h1.le RP2_mono hM_10
        replace h2 := h2.le RP2_mono hM_10
        replace hv_4 := hv_4.le RP2_mono hM_10
        replace hv_6 := hv_6.le RP2_mono hM_10
        replace hv_8 := hv_8.le (RSl_mono RP2_mono) hM_10
        refine S_v E rfl (R_lenV E rfl T33 hv_11.len) rfl ?_
        clear E a; intro a E
        refine S_v E rfl (R_neq E rfl rfl) rfl ?_
        clear E a; intro a E
        refine WL_nil ?_
        refine T_n ?_
        have hc_12 : (decide ((((entE ([[(1, 0)], [(2, 0)]]).flatten).length : Nat) : Int) ≠ 2)) = false := by (clear S E; first | (simp; done) | decide | (simp [entE, mkE, putK, srtK_len]; done) | (first | refine dec_t ?_ | refine dec_f ?_); first | (refine ent_ext ?_; funext key_; simp [lkE_app, lk_ent, lk_mkE, lkE_nil, lkE_one, Option.or_assoc, Option.getD_or]; done) | (simp [lkE_app, lk_ent, lk_mkE, lkE_nil, lkE_one, Option.or_assoc, Option.getD_or]; done))
        refine WP_condF E rfl hc_12 ?_
        refine WP_skip ?_
        refine T_n ?_
        refine WP_seq ?_
        refine WP_seq ?_
        refine WP_region ?_
        refine S_v E rfl (R_move E rfl) rfl ?_
        clear E a; intro a E
        refine S_v E rfl (R_move E rfl) rfl ?_
        clear E a; intro a E
        refine S_v E rfl (R_move E rfl) rfl ?_
        clear E a; intro a E
        refine S_x (X_buildM (R := (RSl 2 RP2)) (vs := [v0, v1, v2]) (xs := [l0, l1, l2]) (RSl_mono RP2_mono) E S rfl T70 rfl rfl rfl (by intro u hu; simp only [List.mem_cons, List.not_mem_nil, or_false] at hu; rcases hu with rfl | rfl | rfl <;> first | exact RdS.one' h0 | exact RdS.one' h1 | exact RdS.one' h2) rfl (rowsC (R := (RSl 2 RP2)) ⟨_, rfl, h0⟩ (rowsC (R := (RSl 2 RP2)) ⟨_, rfl, h1⟩ (rowsC (R := (RSl 2 RP2)) ⟨_, rfl, h2⟩ rowsN))) ?_)
        clear E a S; rintro a v_13 w M_14 hM_14 hv_13 S E
        replace h0 := h0.le RP2_mono hM_14
        replace h1 := h1.le RP2_mono hM_14
        replace h2 := h2.le RP2_mono hM_14
        replace hv_4 := hv_4.le RP2_mono hM_14
        replace hv_6 := hv_6.le RP2_mono hM_14
        replace hv_8 := hv_8.le (RSl_mono RP2_mono) hM_14
        replace hv_11 := hv_11.le RP2_mono hM_14
        refine S_x (X_pu E S rfl rfl rfl (laws_brief hv_13) (Hp.le.refl _) ?_)
        clear E a S; rintro a _ w M_15 hM_15 rfl S E
        replace h0 := h0.le RP2_mono hM_15
        replace h1 := h1.le RP2_mono hM_15
        replace h2 := h2.le RP2_mono hM_15
        replace hv_4 := hv_4.le RP2_mono hM_15
        replace hv_6 := hv_6.le RP2_mono hM_15
        replace hv_8 := hv_8.le (RSl_mono RP2_mono) hM_15
        replace hv_11 := hv_11.le RP2_mono hM_15
        replace hv_13 := hv_13.le (RSl_mono RP2_mono) hM_15
        refine S_v E rfl (R_not E rfl) rfl ?_
        clear E a; intro a E
        refine WL_nil ?_
        refine T_n ?_
        refine WP_cond E rfl (fun hc_16 => ?_) (fun hc_16 => ?_)
        · refine WP_seq ?_
          refine WP_region ?_
          refine S_v E rfl (R_assign E rfl) rfl ?_
          clear E a; intro a E
          refine WL_nil ?_
          refine T_n ?_
          refine WP_ret ?_
          refine T_r ?_
          exact F_ret1 E Try.results8 rfl ⟨_, rfl, M_15, (hM_5.trans (hM_7.trans (hM_9.trans (hM_10.trans (hM_14.trans hM_15))))), rfl, S⟩
        · have hbr : l0.length ≤ 200 ∧ l1.length ≤ 200 ∧ l2.length ≤ 200 := by simp_all
          have hA0 : (entE (l0 ++ l1)).length ≤ 600 := by have h9 := entE_len (l0 ++ l1); simp only [List.length_append] at h9; omega
          have hA1 : (entE (l0 ++ (l1 ++ l2))).length ≤ 600 := by have h9 := entE_len (l0 ++ (l1 ++ l2)); simp only [List.length_append] at h9; omega
          have hA2 : (entE (l1 ++ l2)).length ≤ 600 := by have h9 := entE_len (l1 ++ l2); simp only [List.length_append] at h9; omega
          refine WP_skip ?_
          refine T_n ?_
          refine WP_seq ?_
          refine WP_region ?_
          refine S_v E rfl (R_move E rfl) rfl ?_
          clear E a; intro a E
          refine S_v E rfl (R_move E rfl) rfl ?_
          clear E a; intro a E
          refine S_x (X_buildM (R := (RSl 2 RP2)) (vs := [v0, v1]) (xs := [l0, l1]) (RSl_mono RP2_mono) E S rfl T70 rfl rfl rfl (by intro u hu; simp only [List.mem_cons, List.not_mem_nil, or_false] at hu; rcases hu with rfl | rfl <;> first | exact RdS.one' h0 | exact RdS.one' h1) rfl (rowsC (R := (RSl 2 RP2)) ⟨_, rfl, h0⟩ (rowsC (R := (RSl 2 RP2)) ⟨_, rfl, h1⟩ rowsN)) ?_)
          clear E a S; rintro a v_17 w M_18 hM_18 hv_17 S E
          replace h0 := h0.le RP2_mono hM_18
          replace h1 := h1.le RP2_mono hM_18
          replace h2 := h2.le RP2_mono hM_18
          replace hv_4 := hv_4.le RP2_mono hM_18
          replace hv_6 := hv_6.le RP2_mono hM_18
          replace hv_8 := hv_8.le (RSl_mono RP2_mono) hM_18
          replace hv_11 := hv_11.le RP2_mono hM_18
          replace hv_13 := hv_13.le (RSl_mono RP2_mono) hM_18
          refine S_x (X_pu E S rfl rfl rfl (impl_Assign hv_17 (by first | omega | (simp; done) | (simp; omega)) (by first | omega | (simp; done) | (simp; omega))) (Hp.le.refl _) ?_)
          clear E a S; rintro a v_20 w M_19 hM_19 hv_20 S E
          replace h0 := h0.le RP2_mono hM_19
          replace h1 := h1.le RP2_mono hM_19
          replace h2 := h2.le RP2_mono hM_19
          replace hv_4 := hv_4.le RP2_mono hM_19
          replace hv_6 := hv_6.le RP2_mono hM_19
          replace hv_8 := hv_8.le (RSl_mono RP2_mono) hM_19
          replace hv_11 := hv_11.le RP2_mono hM_19
          replace hv_13 := hv_13.le (RSl_mono RP2_mono) hM_19
          replace hv_17 := hv_17.le (RSl_mono RP2_mono) hM_19
          refine S_v E rfl (R_assign E rfl) rfl ?_
          clear E a; intro a E
          refine WL_nil ?_
          refine T_n ?_
          refine WP_seq ?_
          refine WP_region ?_
          refine S_v E rfl (R_move E rfl) rfl ?_
          clear E a; intro a E
          refine S_v E rfl (R_move E rfl) rfl ?_
          clear E a; intro a E
          refine S_v E rfl (R_move E rfl) rfl ?_
          clear E a; intro a E
          refine S_x (X_buildM (R := (RSl 2 RP2)) (vs := [v0, v1, v2]) (xs := [l0, l1, l2]) (RSl_mono RP2_mono) E S rfl T70 rfl rfl rfl (by intro u hu; simp only [List.mem_cons, List.not_mem_nil, or_false] at hu; rcases hu with rfl | rfl | rfl <;> first | exact RdS.one' h0 | exact RdS.one' h1 | exact RdS.one' h2) rfl (rowsC (R := (RSl 2 RP2)) ⟨_, rfl, h0⟩ (rowsC (R := (RSl 2 RP2)) ⟨_, rfl, h1⟩ (rowsC (R := (RSl 2 RP2)) ⟨_, rfl, h2⟩ rowsN))) ?_)
          clear E a S; rintro a v_21 w M_22 hM_22 hv_21 S E
          replace h0 := h0.le RP2_mono hM_22
          replace h1 := h1.le RP2_mono hM_22
          replace h2 := h2.le RP2_mono hM_22
          replace hv_4 := hv_4.le RP2_mono hM_22
          replace hv_6 := hv_6.le RP2_mono hM_22
          replace hv_8 := hv_8.le (RSl_mono RP2_mono) hM_22
          replace hv_11 := hv_11.le RP2_mono hM_22
          replace hv_13 := hv_13.le (RSl_mono RP2_mono) hM_22
          replace hv_17 := hv_17.le (RSl_mono RP2_mono) hM_22
          replace hv_20 := hv_20.le RP2_mono hM_22
          refine S_x (X_pu E S rfl rfl rfl (impl_Assign hv_21 (by first | omega | (simp; done) | (simp; omega)) (by first | omega | (simp; done) | (simp; omega))) (Hp.le.refl _) ?_)
          clear E a S; rintro a v_24 w M_23 hM_23 hv_24 S E
          replace h0 := h0.le RP2_mono hM_23
          replace h1 := h1.le RP2_mono hM_23
          replace h2 := h2.le RP2_mono hM_23
          replace hv_4 := hv_4.le RP2_mono hM_23
          replace hv_6 := hv_6.le RP2_mono hM_23
          replace hv_8 := hv_8.le (RSl_mono RP2_mono) hM_23
          replace hv_11 := hv_11.le RP2_mono hM_23
          replace hv_13 := hv_13.le (RSl_mono RP2_mono) hM_23
          replace hv_17 := hv_17.le (RSl_mono RP2_mono) hM_23
          replace hv_20 := hv_20.le RP2_mono hM_23
          replace hv_21 := hv_21.le (RSl_mono RP2_mono) hM_23
          refine S_v E rfl (R_assign E rfl) rfl ?_
          clear E a; intro a E
          refine WL_nil ?_
          refine T_n ?_
          refine WP_seq ?_
          refine WP_seq ?_
          refine WP_region ?_
          refine S_v E rfl (R_move E rfl) rfl ?_
          clear E a; intro a E
          refine S_v E rfl (R_move E rfl) rfl ?_
          clear E a; intro a E
          refine S_x (X_buildM (R := (RSl 2 RP2)) (vs := [v_20, v2]) (xs := [entE ([l0, l1]).flatten, l2]) (RSl_mono RP2_mono) E S rfl T70 rfl rfl rfl (by intro u hu; simp only [List.mem_cons, List.not_mem_nil, or_false] at hu; rcases hu with rfl | rfl <;> first | exact RdS.one' hv_20 | exact RdS.one' h2) rfl (rowsC (R := (RSl 2 RP2)) ⟨_, rfl, hv_20⟩ (rowsC (R := (RSl 2 RP2)) ⟨_, rfl, h2⟩ rowsN)) ?_)
          clear E a S; rintro a v_25 w M_26 hM_26 hv_25 S E
          replace h0 := h0.le RP2_mono hM_26
          replace h1 := h1.le RP2_mono hM_26
          replace h2 := h2.le RP2_mono hM_26
          replace hv_4 := hv_4.le RP2_mono hM_26
          replace hv_6 := hv_6.le RP2_mono hM_26
          replace hv_8 := hv_8.le (RSl_mono RP2_mono) hM_26
          replace hv_11 := hv_11.le RP2_mono hM_26
          replace hv_13 := hv_13.le (RSl_mono RP2_mono) hM_26
          replace hv_17 := hv_17.le (RSl_mono RP2_mono) hM_26
          replace hv_20 := hv_20.le RP2_mono hM_26
          replace hv_21 := hv_21.le (RSl_mono RP2_mono) hM_26
          replace hv_24 := hv_24.le RP2_mono hM_26
          refine S_x (X_pu E S rfl rfl rfl (impl_Assign hv_25 (by first | omega | (simp; done) | (simp; omega)) (by first | omega | (simp; done) | (simp; omega))) (Hp.le.refl _) ?_)
          clear E a S; rintro a v_28 w M_27 hM_27 hv_28 S E
          replace h0 := h0.le RP2_mono hM_27
          replace h1 := h1.le RP2_mono hM_27
          replace h2 := h2.le RP2_mono hM_27
          replace hv_4 := hv_4.le RP2_mono hM_27
          replace hv_6 := hv_6.le RP2_mono hM_27
          replace hv_8 := hv_8.le (RSl_mono RP2_mono) hM_27
          replace hv_11 := hv_11.le RP2_mono hM_27
          replace hv_13 := hv_13.le (RSl_mono RP2_mono) hM_27
          replace hv_17 := hv_17.le (RSl_mono RP2_mono) hM_27
          replace hv_20 := hv_20.le RP2_mono hM_27
          replace hv_21 := hv_21.le (RSl_mono RP2_mono) hM_27
          replace hv_24 := hv_24.le RP2_mono hM_27
          replace hv_25 := hv_25.le (RSl_mono RP2_mono) hM_27
          refine S_v E rfl (R_move E rfl) rfl ?_
          clear E a; intro a E
          refine S_x (X_pu E S rfl rfl rfl (laws_eqPairs hv_28 hv_24) (Hp.le.refl _) ?_)
          clear E a S; rintro a _ w M_29 hM_29 rfl S E
          replace h0 := h0.le RP2_mono hM_29
          replace h1 := h1.le RP2_mono hM_29
          replace h2 := h2.le RP2_mono hM_29
          replace hv_4 := hv_4.le RP2_mono hM_29
          replace hv_6 := hv_6.le RP2_mono hM_29
          replace hv_8 := hv_8.le (RSl_mono RP2_mono) hM_29
          replace hv_11 := hv_11.le RP2_mono hM_29
          replace hv_13 := hv_13.le (RSl_mono RP2_mono) hM_29
          replace hv_17 := hv_17.le (RSl_mono RP2_mono) hM_29
          replace hv_20 := hv_20.le RP2_mono hM_29
          replace hv_21 := hv_21.le (RSl_mono RP2_mono) hM_29
          replace hv_24 := hv_24.le RP2_mono hM_29
          replace hv_25 := hv_25.le (RSl_mono RP2_mono) hM_29
          replace hv_28 := hv_28.le RP2_mono hM_29
          refine S_v E rfl (R_not E rfl) rfl ?_
          clear E a; intro a E
          refine S_v E rfl (R_move E rfl) rfl ?_
          clear E a; intro a E
          have hc_30 : (!(decide (entE ([entE ([l0, l1]).flatten, l2]).flatten = entE ([l0, l1, l2]).flatten))) = false := by (clear S E; first | (simp; done) | decide | (simp [entE, mkE, putK, srtK_len]; done) | (first | refine dec_t ?_ | refine dec_f ?_); first | (refine ent_ext ?_; funext key_; simp [lkE_app, lk_ent, lk_mkE, lkE_nil, lkE_one, Option.or_assoc, Option.getD_or]; done) | (simp [lkE_app, lk_ent, lk_mkE, lkE_nil, lkE_one, Option.or_assoc, Option.getD_or]; done))
          replace E := E.val (t := 56) rfl hc_30
          replace E := E.val (t := 57) rfl hc_30
          refine WL_guard_yes E rfl rfl ?_
          refine S_v E rfl (R_move E rfl) rfl ?_
          clear E a; intro a E
          refine WL_guard_yes E rfl rfl ?_
          refine S_v E rfl (R_move E rfl) rfl ?_
          clear E a; intro a E
          refine WL_guard_yes E rfl rfl ?_
          refine S_v E rfl (R_move E rfl) rfl ?_
          clear E a; intro a E
          refine WL_guard_yes E rfl rfl ?_
          refine S_x (X_buildM (R := (RSl 2 RP2)) (vs := [v1, v2]) (xs := [l1, l2]) (RSl_mono RP2_mono) E S rfl T70 rfl rfl rfl (by intro u hu; simp only [List.mem_cons, List.not_mem_nil, or_false] at hu; rcases hu with rfl | rfl <;> first | exact RdS.one' h1 | exact RdS.one' h2) rfl (rowsC (R := (RSl 2 RP2)) ⟨_, rfl, h1⟩ (rowsC (R := (RSl 2 RP2)) ⟨_, rfl, h2⟩ rowsN)) ?_)
          clear E a S; rintro a v_31 w M_32 hM_32 hv_31 S E
          replace h0 := h0.le RP2_mono hM_32
          replace h1 := h1.le RP2_mono hM_32
          replace h2 := h2.le RP2_mono hM_32
          replace hv_4 := hv_4.le RP2_mono hM_32
          replace hv_6 := hv_6.le RP2_mono hM_32
          replace hv_8 := hv_8.le (RSl_mono RP2_mono) hM_32
          replace hv_11 := hv_11.le RP2_mono hM_32
          replace hv_13 := hv_13.le (RSl_mono RP2_mono) hM_32
          replace hv_17 := hv_17.le (RSl_mono RP2_mono) hM_32
          replace hv_20 := hv_20.le RP2_mono hM_32
          replace hv_21 := hv_21.le (RSl_mono RP2_mono) hM_32
          replace hv_24 := hv_24.le RP2_mono hM_32
          replace hv_25 := hv_25.le (RSl_mono RP2_mono) hM_32
          replace hv_28 := hv_28.le RP2_mono hM_32
          refine WL_guard_yes E rfl rfl ?_
          refine S_x (X_pu E S rfl rfl rfl (impl_Assign hv_31 (by first | omega | (simp; done) | (simp; omega)) (by first | omega | (simp; done) | (simp; omega))) (Hp.le.refl _) ?_)
          clear E a S; rintro a v_34 w M_33 hM_33 hv_34 S E
          replace h0 := h0.le RP2_mono hM_33
          replace h1 := h1.le RP2_mono hM_33
          replace h2 := h2.le RP2_mono hM_33
          replace hv_4 := hv_4.le RP2_mono hM_33
          replace hv_6 := hv_6.le RP2_mono hM_33
          replace hv_8 := hv_8.le (RSl_mono RP2_mono) hM_33
          replace hv_11 := hv_11.le RP2_mono hM_33
          replace hv_13 := hv_13.le (RSl_mono RP2_mono) hM_33
          replace hv_17 := hv_17.le (RSl_mono RP2_mono) hM_33
          replace hv_20 := hv_20.le RP2_mono hM_33
          replace hv_21 := hv_21.le (RSl_mono RP2_mono) hM_33
          replace hv_24 := hv_24.le RP2_mono hM_33
          replace hv_25 := hv_25.le (RSl_mono RP2_mono) hM_33
          replace hv_28 := hv_28.le RP2_mono hM_33
          replace hv_31 := hv_31.le (RSl_mono RP2_mono) hM_33
          refine WL_guard_yes E rfl rfl ?_
          refine S_x (X_buildM (R := (RSl 2 RP2)) (vs := [v0, v_34]) (xs := [l0, entE ([l1, l2]).flatten]) (RSl_mono RP2_mono) E S rfl T70 rfl rfl rfl (by intro u hu; simp only [List.mem_cons, List.not_mem_nil, or_false] at hu; rcases hu with rfl | rfl <;> first | exact RdS.one' h0 | exact RdS.one' hv_34) rfl (rowsC (R := (RSl 2 RP2)) ⟨_, rfl, h0⟩ (rowsC (R := (RSl 2 RP2)) ⟨_, rfl, hv_34⟩ rowsN)) ?_)
          clear E a S; rintro a v_35 w M_36 hM_36 hv_35 S E
          replace h0 := h0.le RP2_mono hM_36
          replace h1 := h1.le RP2_mono hM_36
          replace h2 := h2.le RP2_mono hM_36
          replace hv_4 := hv_4.le RP2_mono hM_36
          replace hv_6 := hv_6.le RP2_mono hM_36
          replace hv_8 := hv_8.le (RSl_mono RP2_mono) hM_36
          replace hv_11 := hv_11.le RP2_mono hM_36
          replace hv_13 := hv_13.le (RSl_mono RP2_mono) hM_36
          replace hv_17 := hv_17.le (RSl_mono RP2_mono) hM_36
          replace hv_20 := hv_20.le RP2_mono hM_36
          replace hv_21 := hv_21.le (RSl_mono RP2_mono) hM_36
          replace hv_24 := hv_24.le RP2_mono hM_36
          replace hv_25 := hv_25.le (RSl_mono RP2_mono) hM_36
          replace hv_28 := hv_28.le RP2_mono hM_36
          replace hv_31 := hv_31.le (RSl_mono RP2_mono) hM_36
          replace hv_34 := hv_34.le RP2_mono hM_36
          refine WL_guard_yes E rfl rfl ?_
          refine S_x (X_pu E S rfl rfl rfl (impl_Assign hv_35 (by first | omega | (simp; done) | (simp; omega)) (by first | omega | (simp; done) | (simp; omega))) (Hp.le.refl _) ?_)
          clear E a S; rintro a v_38 w M_37 hM_37 hv_38 S E
          replace h0 := h0.le RP2_mono hM_37
          replace h1 := h1.le RP2_mono hM_37
          replace h2 := h2.le RP2_mono hM_37
          replace hv_4 := hv_4.le RP2_mono hM_37
          replace hv_6 := hv_6.le RP2_mono hM_37
          replace hv_8 := hv_8.le (RSl_mono RP2_mono) hM_37
          replace hv_11 := hv_11.le RP2_mono hM_37
          replace hv_13 := hv_13.le (RSl_mono RP2_mono) hM_37
          replace hv_17 := hv_17.le (RSl_mono RP2_mono) hM_37
          replace hv_20 := hv_20.le RP2_mono hM_37
          replace hv_21 := hv_21.le (RSl_mono RP2_mono) hM_37
          replace hv_24 := hv_24.le RP2_mono hM_37
          replace hv_25 := hv_25.le (RSl_mono RP2_mono) hM_37
          replace hv_28 := hv_28.le RP2_mono hM_37
          replace hv_31 := hv_31.le (RSl_mono RP2_mono) hM_37
          replace hv_34 := hv_34.le RP2_mono hM_37
          replace hv_35 := hv_35.le (RSl_mono RP2_mono) hM_37
          refine WL_guard_yes E rfl rfl ?_
          refine S_v E rfl (R_move E rfl) rfl ?_
          clear E a; intro a E
          refine WL_guard_yes E rfl rfl ?_
          refine S_x (X_pu E S rfl rfl rfl (laws_eqPairs hv_38 hv_24) (Hp.le.refl _) ?_)
          clear E a S; rintro a _ w M_39 hM_39 rfl S E
          replace h0 := h0.le RP2_mono hM_39
          replace h1 := h1.le RP2_mono hM_39
          replace h2 := h2.le RP2_mono hM_39
          replace hv_4 := hv_4.le RP2_mono hM_39
          replace hv_6 := hv_6.le RP2_mono hM_39
          replace hv_8 := hv_8.le (RSl_mono RP2_mono) hM_39
          replace hv_11 := hv_11.le RP2_mono hM_39
          replace hv_13 := hv_13.le (RSl_mono RP2_mono) hM_39
          replace hv_17 := hv_17.le (RSl_mono RP2_mono) hM_39
          replace hv_20 := hv_20.le RP2_mono hM_39
          replace hv_21 := hv_21.le (RSl_mono RP2_mono) hM_39
          replace hv_24 := hv_24.le RP2_mono hM_39
          replace hv_25 := hv_25.le (RSl_mono RP2_mono) hM_39
          replace hv_28 := hv_28.le RP2_mono hM_39
          replace hv_31 := hv_31.le (RSl_mono RP2_mono) hM_39
          replace hv_34 := hv_34.le RP2_mono hM_39
          replace hv_35 := hv_35.le (RSl_mono RP2_mono) hM_39
          replace hv_38 := hv_38.le RP2_mono hM_39
          refine WL_guard_yes E rfl rfl ?_
          refine S_v E rfl (R_not E rfl) rfl ?_
          clear E a; intro a E
          refine S_v E rfl (R_pickF E rfl rfl) rfl ?_
          clear E a; intro a E
          refine S_v E rfl (R_move E rfl) rfl ?_
          clear E a; intro a E
          have hc_40 : (!(decide (entE ([l0, entE ([l1, l2]).flatten]).flatten = entE ([l0, l1, l2]).flatten))) = false := by (clear S E; first | (simp; done) | decide | (simp [entE, mkE, putK, srtK_len]; done) | (first | refine dec_t ?_ | refine dec_f ?_); first | (refine ent_ext ?_; funext key_; simp [lkE_app, lk_ent, lk_mkE, lkE_nil, lkE_one, Option.or_assoc, Option.getD_or]; done) | (simp [lkE_app, lk_ent, lk_mkE, lkE_nil, lkE_one, Option.or_assoc, Option.getD_or]; done))
          replace E := E.val (t := 67) rfl hc_40
          replace E := E.val (t := 68) rfl hc_40
          replace E := E.val (t := 69) rfl hc_40
          refine WL_guard_yes E rfl rfl ?_
          refine S_v E rfl (R_move E rfl) rfl ?_
          clear E a; intro a E
          refine WL_guard_yes E rfl rfl ?_
          refine S_v E rfl (R_move E rfl) rfl ?_
          clear E a; intro a E
          refine WL_guard_yes E rfl rfl ?_
          refine S_x (X_buildM (R := (RSl 2 RP2)) (vs := [v_24, v_24]) (xs := [entE ([l0, l1, l2]).flatten, entE ([l0, l1, l2]).flatten]) (RSl_mono RP2_mono) E S rfl T70 rfl rfl rfl (by intro u hu; simp only [List.mem_cons, List.not_mem_nil, or_false] at hu; rcases hu with rfl | rfl <;> first | exact RdS.one' hv_24 | exact RdS.one' hv_24) rfl (rowsC (R := (RSl 2 RP2)) ⟨_, rfl, hv_24⟩ (rowsC (R := (RSl 2 RP2)) ⟨_, rfl, hv_24⟩ rowsN)) ?_)
          clear E a S; rintro a v_41 w M_42 hM_42 hv_41 S E
          replace h0 := h0.le RP2_mono hM_42
          replace h1 := h1.le RP2_mono hM_42
          replace h2 := h2.le RP2_mono hM_42
          replace hv_4 := hv_4.le RP2_mono hM_42
          replace hv_6 := hv_6.le RP2_mono hM_42
          replace hv_8 := hv_8.le (RSl_mono RP2_mono) hM_42
          replace hv_11 := hv_11.le RP2_mono hM_42
          replace hv_13 := hv_13.le (RSl_mono RP2_mono) hM_42
          replace hv_17 := hv_17.le (RSl_mono RP2_mono) hM_42
          replace hv_20 := hv_20.le RP2_mono hM_42
          replace hv_21 := hv_21.le (RSl_mono RP2_mono) hM_42
          replace hv_24 := hv_24.le RP2_mono hM_42
          replace hv_25 := hv_25.le (RSl_mono RP2_mono) hM_42
          replace hv_28 := hv_28.le RP2_mono hM_42
          replace hv_31 := hv_31.le (RSl_mono RP2_mono) hM_42
          replace hv_34 := hv_34.le RP2_mono hM_42
          replace hv_35 := hv_35.le (RSl_mono RP2_mono) hM_42
          replace hv_38 := hv_38.le RP2_mono hM_42
          refine WL_guard_yes E rfl rfl ?_
          refine S_x (X_pu E S rfl rfl rfl (impl_Assign hv_41 (by first | omega | (simp; done) | (simp; omega)) (by first | omega | (simp; done) | (simp; omega))) (Hp.le.refl _) ?_)
          clear E a S; rintro a v_44 w M_43 hM_43 hv_44 S E
          replace h0 := h0.le RP2_mono hM_43
          replace h1 := h1.le RP2_mono hM_43
          replace h2 := h2.le RP2_mono hM_43
          replace hv_4 := hv_4.le RP2_mono hM_43
          replace hv_6 := hv_6.le RP2_mono hM_43
          replace hv_8 := hv_8.le (RSl_mono RP2_mono) hM_43
          replace hv_11 := hv_11.le RP2_mono hM_43
          replace hv_13 := hv_13.le (RSl_mono RP2_mono) hM_43
          replace hv_17 := hv_17.le (RSl_mono RP2_mono) hM_43
          replace hv_20 := hv_20.le RP2_mono hM_43
          replace hv_21 := hv_21.le (RSl_mono RP2_mono) hM_43
          replace hv_24 := hv_24.le RP2_mono hM_43
          replace hv_25 := hv_25.le (RSl_mono RP2_mono) hM_43
          replace hv_28 := hv_28.le RP2_mono hM_43
          replace hv_31 := hv_31.le (RSl_mono RP2_mono) hM_43
          replace hv_34 := hv_34.le RP2_mono hM_43
          replace hv_35 := hv_35.le (RSl_mono RP2_mono) hM_43
          replace hv_38 := hv_38.le RP2_mono hM_43
          replace hv_41 := hv_41.le (RSl_mono RP2_mono) hM_43
          refine WL_guard_yes E rfl rfl ?_
          refine S_v E rfl (R_move E rfl) rfl ?_
          clear E a; intro a E
          refine WL_guard_yes E rfl rfl ?_
          refine S_x (X_pu E S rfl rfl rfl (laws_eqPairs hv_44 hv_24) (Hp.le.refl _) ?_)
          clear E a S; rintro a _ w M_45 hM_45 rfl S E
          replace h0 := h0.le RP2_mono hM_45
          replace h1 := h1.le RP2_mono hM_45
          replace h2 := h2.le RP2_mono hM_45
          replace hv_4 := hv_4.le RP2_mono hM_45
          replace hv_6 := hv_6.le RP2_mono hM_45
          replace hv_8 := hv_8.le (RSl_mono RP2_mono) hM_45
          replace hv_11 := hv_11.le RP2_mono hM_45
          replace hv_13 := hv_13.le (RSl_mono RP2_mono) hM_45
          replace hv_17 := hv_17.le (RSl_mono RP2_mono) hM_45
          replace hv_20 := hv_20.le RP2_mono hM_45
          replace hv_21 := hv_21.le (RSl_mono RP2_mono) hM_45
          replace hv_24 := hv_24.le RP2_mono hM_45
          replace hv_25 := hv_25.le (RSl_mono RP2_mono) hM_45
          replace hv_28 := hv_28.le RP2_mono hM_45
          replace hv_31 := hv_31.le (RSl_mono RP2_mono) hM_45
          replace hv_34 := hv_34.le RP2_mono hM_45
          replace hv_35 := hv_35.le (RSl_mono RP2_mono) hM_45
          replace hv_38 := hv_38.le RP2_mono hM_45
          replace hv_41 := hv_41.le (RSl_mono RP2_mono) hM_45
          replace hv_44 := hv_44.le RP2_mono hM_45
          refine WL_guard_yes E rfl rfl ?_
          refine S_v E rfl (R_not E rfl) rfl ?_
          clear E a; intro a E
          refine S_v E rfl (R_pickF E rfl rfl) rfl ?_
          clear E a; intro a E
          refine S_v E rfl (R_move E rfl) rfl ?_
          clear E a; intro a E
          have hc_46 : (!(decide (entE ([entE ([l0, l1, l2]).flatten, entE ([l0, l1, l2]).flatten]).flatten = entE ([l0, l1, l2]).flatten))) = false := by (clear S E; first | (simp; done) | decide | (simp [entE, mkE, putK, srtK_len]; done) | (first | refine dec_t ?_ | refine dec_f ?_); first | (refine ent_ext ?_; funext key_; simp [lkE_app, lk_ent, lk_mkE, lkE_nil, lkE_one, Option.or_assoc, Option.getD_or]; done) | (simp [lkE_app, lk_ent, lk_mkE, lkE_nil, lkE_one, Option.or_assoc, Option.getD_or]; done))
          replace E := E.val (t := 76) rfl hc_46
          replace E := E.val (t := 77) rfl hc_46
          replace E := E.val (t := 78) rfl hc_46
          refine WL_guard_yes E rfl rfl ?_
          refine S_v E rfl (R_move E rfl) rfl ?_
          clear E a; intro a E
          refine WL_guard_yes E rfl rfl ?_
          refine S_x (X_pu E S rfl rfl rfl (impl_Entries hv_24 (by first | omega | (simp [ixm_len]; done) | (simp [ixm_len]; omega) | (have h9 := kpix_len _ _ _; exact Nat.le_trans h9 (by omega)) | exact Nat.le_trans (kpix_len _ _ _) (by first | omega | (simp; omega)))) (Hp.le.refl _) ?_)
          clear E a S; rintro a v_48 w M_47 hM_47 hv_48 S E
          replace h0 := h0.le RP2_mono hM_47
          replace h1 := h1.le RP2_mono hM_47
          replace h2 := h2.le RP2_mono hM_47
          replace hv_4 := hv_4.le RP2_mono hM_47
          replace hv_6 := hv_6.le RP2_mono hM_47
          replace hv_8 := hv_8.le (RSl_mono RP2_mono) hM_47
          replace hv_11 := hv_11.le RP2_mono hM_47
          replace hv_13 := hv_13.le (RSl_mono RP2_mono) hM_47
          replace hv_17 := hv_17.le (RSl_mono RP2_mono) hM_47
          replace hv_20 := hv_20.le RP2_mono hM_47
          replace hv_21 := hv_21.le (RSl_mono RP2_mono) hM_47
          replace hv_24 := hv_24.le RP2_mono hM_47
          replace hv_25 := hv_25.le (RSl_mono RP2_mono) hM_47
          replace hv_28 := hv_28.le RP2_mono hM_47
          replace hv_31 := hv_31.le (RSl_mono RP2_mono) hM_47
          replace hv_34 := hv_34.le RP2_mono hM_47
          replace hv_35 := hv_35.le (RSl_mono RP2_mono) hM_47
          replace hv_38 := hv_38.le RP2_mono hM_47
          replace hv_41 := hv_41.le (RSl_mono RP2_mono) hM_47
          replace hv_44 := hv_44.le RP2_mono hM_47
          refine WL_guard_yes E rfl rfl ?_
          refine S_v E rfl (R_move E rfl) rfl ?_
          clear E a; intro a E
          refine WL_guard_yes E rfl rfl ?_
          refine S_x (X_pu E S rfl rfl rfl (laws_eqPairs hv_48 hv_24) (Hp.le.refl _) ?_)
          clear E a S; rintro a _ w M_49 hM_49 rfl S E
          replace h0 := h0.le RP2_mono hM_49
          replace h1 := h1.le RP2_mono hM_49
          replace h2 := h2.le RP2_mono hM_49
          replace hv_4 := hv_4.le RP2_mono hM_49
          replace hv_6 := hv_6.le RP2_mono hM_49
          replace hv_8 := hv_8.le (RSl_mono RP2_mono) hM_49
          replace hv_11 := hv_11.le RP2_mono hM_49
          replace hv_13 := hv_13.le (RSl_mono RP2_mono) hM_49
          replace hv_17 := hv_17.le (RSl_mono RP2_mono) hM_49
          replace hv_20 := hv_20.le RP2_mono hM_49
          replace hv_21 := hv_21.le (RSl_mono RP2_mono) hM_49
          replace hv_24 := hv_24.le RP2_mono hM_49
          replace hv_25 := hv_25.le (RSl_mono RP2_mono) hM_49
          replace hv_28 := hv_28.le RP2_mono hM_49
          replace hv_31 := hv_31.le (RSl_mono RP2_mono) hM_49
          replace hv_34 := hv_34.le RP2_mono hM_49
          replace hv_35 := hv_35.le (RSl_mono RP2_mono) hM_49
          replace hv_38 := hv_38.le RP2_mono hM_49
          replace hv_41 := hv_41.le (RSl_mono RP2_mono) hM_49
          replace hv_44 := hv_44.le RP2_mono hM_49
          replace hv_48 := hv_48.le RP2_mono hM_49
          refine WL_guard_yes E rfl rfl ?_
          refine S_v E rfl (R_not E rfl) rfl ?_
          clear E a; intro a E
          refine S_v E rfl (R_pickF E rfl rfl) rfl ?_
          clear E a; intro a E
          refine WL_nil ?_
          refine T_n ?_
          have hc_50 : (!(decide (entE (entE ([l0, l1, l2]).flatten) = entE ([l0, l1, l2]).flatten))) = false := by (clear S E; first | (simp; done) | decide | (simp [entE, mkE, putK, srtK_len]; done) | (first | refine dec_t ?_ | refine dec_f ?_); first | (refine ent_ext ?_; funext key_; simp [lkE_app, lk_ent, lk_mkE, lkE_nil, lkE_one, Option.or_assoc, Option.getD_or]; done) | (simp [lkE_app, lk_ent, lk_mkE, lkE_nil, lkE_one, Option.or_assoc, Option.getD_or]; done))
          refine WP_condF E rfl hc_50 ?_
          refine WP_skip ?_
          refine T_n ?_
          refine WP_seq ?_
          refine WP_region ?_
          refine S_v E rfl (R_move E rfl) rfl ?_
          clear E a; intro a E
          refine S_v E rfl (R_move E rfl) rfl ?_
          clear E a; intro a E
          refine S_v E rfl (R_move E rfl) rfl ?_
          clear E a; intro a E
          refine S_x (X_pu E S rfl rfl rfl (impl_ValueOr h0) (Hp.le.refl _) ?_)
          clear E a S; rintro a _ w M_51 hM_51 rfl S E
          replace h0 := h0.le RP2_mono hM_51
          replace h1 := h1.le RP2_mono hM_51
          replace h2 := h2.le RP2_mono hM_51
          replace hv_4 := hv_4.le RP2_mono hM_51
          replace hv_6 := hv_6.le RP2_mono hM_51
          replace hv_8 := hv_8.le (RSl_mono RP2_mono) hM_51
          replace hv_11 := hv_11.le RP2_mono hM_51
          replace hv_13 := hv_13.le (RSl_mono RP2_mono) hM_51
          replace hv_17 := hv_17.le (RSl_mono RP2_mono) hM_51
          replace hv_20 := hv_20.le RP2_mono hM_51
          replace hv_21 := hv_21.le (RSl_mono RP2_mono) hM_51
          replace hv_24 := hv_24.le RP2_mono hM_51
          replace hv_25 := hv_25.le (RSl_mono RP2_mono) hM_51
          replace hv_28 := hv_28.le RP2_mono hM_51
          replace hv_31 := hv_31.le (RSl_mono RP2_mono) hM_51
          replace hv_34 := hv_34.le RP2_mono hM_51
          replace hv_35 := hv_35.le (RSl_mono RP2_mono) hM_51
          replace hv_38 := hv_38.le RP2_mono hM_51
          replace hv_41 := hv_41.le (RSl_mono RP2_mono) hM_51
          replace hv_44 := hv_44.le RP2_mono hM_51
          replace hv_48 := hv_48.le RP2_mono hM_51
          refine S_v E rfl (R_assign E rfl) rfl ?_
          clear E a; intro a E
          refine WL_nil ?_
          refine T_n ?_
          refine WP_seq ?_
          refine WP_region ?_
          refine S_v E rfl (R_move E rfl) rfl ?_
          clear E a; intro a E
          refine S_v E rfl (R_move E rfl) rfl ?_
          clear E a; intro a E
          refine S_v E rfl (R_move E rfl) rfl ?_
          clear E a; intro a E
          refine S_x (X_pu E S rfl rfl rfl (impl_ValueOr h1) (Hp.le.refl _) ?_)
          clear E a S; rintro a _ w M_52 hM_52 rfl S E
          replace h0 := h0.le RP2_mono hM_52
          replace h1 := h1.le RP2_mono hM_52
          replace h2 := h2.le RP2_mono hM_52
          replace hv_4 := hv_4.le RP2_mono hM_52
          replace hv_6 := hv_6.le RP2_mono hM_52
          replace hv_8 := hv_8.le (RSl_mono RP2_mono) hM_52
          replace hv_11 := hv_11.le RP2_mono hM_52
          replace hv_13 := hv_13.le (RSl_mono RP2_mono) hM_52
          replace hv_17 := hv_17.le (RSl_mono RP2_mono) hM_52
          replace hv_20 := hv_20.le RP2_mono hM_52
          replace hv_21 := hv_21.le (RSl_mono RP2_mono) hM_52
          replace hv_24 := hv_24.le RP2_mono hM_52
          replace hv_25 := hv_25.le (RSl_mono RP2_mono) hM_52
          replace hv_28 := hv_28.le RP2_mono hM_52
          replace hv_31 := hv_31.le (RSl_mono RP2_mono) hM_52
          replace hv_34 := hv_34.le RP2_mono hM_52
          replace hv_35 := hv_35.le (RSl_mono RP2_mono) hM_52
          replace hv_38 := hv_38.le RP2_mono hM_52
          replace hv_41 := hv_41.le (RSl_mono RP2_mono) hM_52
          replace hv_44 := hv_44.le RP2_mono hM_52
          replace hv_48 := hv_48.le RP2_mono hM_52
          refine S_v E rfl (R_assign E rfl) rfl ?_
          clear E a; intro a E
          refine WL_nil ?_
          refine T_n ?_
          refine WP_seq ?_
          refine WP_region ?_
          refine S_v E rfl (R_move E rfl) rfl ?_
          clear E a; intro a E
          refine S_v E rfl (R_move E rfl) rfl ?_
          clear E a; intro a E
          refine S_x (X_pu E S rfl rfl rfl (laws_pairs h0 (by first | omega | (simp [ixm_len]; done) | (simp [ixm_len]; omega) | (have h9 := kpix_len _ _ _; exact Nat.le_trans h9 (by omega)) | exact Nat.le_trans (kpix_len _ _ _) (by first | omega | (simp; omega)))) (Hp.le.refl _) ?_)
          clear E a S; rintro a v_54 w M_53 hM_53 hv_54 S E
          replace h0 := h0.le RP2_mono hM_53
          replace h1 := h1.le RP2_mono hM_53
          replace h2 := h2.le RP2_mono hM_53
          replace hv_4 := hv_4.le RP2_mono hM_53
          replace hv_6 := hv_6.le RP2_mono hM_53
          replace hv_8 := hv_8.le (RSl_mono RP2_mono) hM_53
          replace hv_11 := hv_11.le RP2_mono hM_53
          replace hv_13 := hv_13.le (RSl_mono RP2_mono) hM_53
          replace hv_17 := hv_17.le (RSl_mono RP2_mono) hM_53
          replace hv_20 := hv_20.le RP2_mono hM_53
          replace hv_21 := hv_21.le (RSl_mono RP2_mono) hM_53
          replace hv_24 := hv_24.le RP2_mono hM_53
          replace hv_25 := hv_25.le (RSl_mono RP2_mono) hM_53
          replace hv_28 := hv_28.le RP2_mono hM_53
          replace hv_31 := hv_31.le (RSl_mono RP2_mono) hM_53
          replace hv_34 := hv_34.le RP2_mono hM_53
          replace hv_35 := hv_35.le (RSl_mono RP2_mono) hM_53
          replace hv_38 := hv_38.le RP2_mono hM_53
          replace hv_41 := hv_41.le (RSl_mono RP2_mono) hM_53
          replace hv_44 := hv_44.le RP2_mono hM_53
          replace hv_48 := hv_48.le RP2_mono hM_53
          refine S_v E rfl (R_move E rfl) rfl ?_
          clear E a; intro a E
          refine S_x (X_pu E S rfl rfl rfl (laws_pairs h1 (by first | omega | (simp [ixm_len]; done) | (simp [ixm_len]; omega) | (have h9 := kpix_len _ _ _; exact Nat.le_trans h9 (by omega)) | exact Nat.le_trans (kpix_len _ _ _) (by first | omega | (simp; omega)))) (Hp.le.refl _) ?_)
          clear E a S; rintro a v_56 w M_55 hM_55 hv_56 S E
          replace h0 := h0.le RP2_mono hM_55
          replace h1 := h1.le RP2_mono hM_55
          replace h2 := h2.le RP2_mono hM_55
          replace hv_4 := hv_4.le RP2_mono hM_55
          replace hv_6 := hv_6.le RP2_mono hM_55
          replace hv_8 := hv_8.le (RSl_mono RP2_mono) hM_55
          replace hv_11 := hv_11.le RP2_mono hM_55
          replace hv_13 := hv_13.le (RSl_mono RP2_mono) hM_55
          replace hv_17 := hv_17.le (RSl_mono RP2_mono) hM_55
          replace hv_20 := hv_20.le RP2_mono hM_55
          replace hv_21 := hv_21.le (RSl_mono RP2_mono) hM_55
          replace hv_24 := hv_24.le RP2_mono hM_55
          replace hv_25 := hv_25.le (RSl_mono RP2_mono) hM_55
          replace hv_28 := hv_28.le RP2_mono hM_55
          replace hv_31 := hv_31.le (RSl_mono RP2_mono) hM_55
          replace hv_34 := hv_34.le RP2_mono hM_55
          replace hv_35 := hv_35.le (RSl_mono RP2_mono) hM_55
          replace hv_38 := hv_38.le RP2_mono hM_55
          replace hv_41 := hv_41.le (RSl_mono RP2_mono) hM_55
          replace hv_44 := hv_44.le RP2_mono hM_55
          replace hv_48 := hv_48.le RP2_mono hM_55
          replace hv_54 := hv_54.le RP2_mono hM_55
          refine S_v E rfl (R_move E rfl) rfl ?_
          clear E a; intro a E
          refine S_x (X_pu E S rfl rfl rfl (laws_pairs h2 (by first | omega | (simp [ixm_len]; done) | (simp [ixm_len]; omega) | (have h9 := kpix_len _ _ _; exact Nat.le_trans h9 (by omega)) | exact Nat.le_trans (kpix_len _ _ _) (by first | omega | (simp; omega)))) (Hp.le.refl _) ?_)
          clear E a S; rintro a v_58 w M_57 hM_57 hv_58 S E
          replace h0 := h0.le RP2_mono hM_57
          replace h1 := h1.le RP2_mono hM_57
          replace h2 := h2.le RP2_mono hM_57
          replace hv_4 := hv_4.le RP2_mono hM_57
          replace hv_6 := hv_6.le RP2_mono hM_57
          replace hv_8 := hv_8.le (RSl_mono RP2_mono) hM_57
          replace hv_11 := hv_11.le RP2_mono hM_57
          replace hv_13 := hv_13.le (RSl_mono RP2_mono) hM_57
          replace hv_17 := hv_17.le (RSl_mono RP2_mono) hM_57
          replace hv_20 := hv_20.le RP2_mono hM_57
          replace hv_21 := hv_21.le (RSl_mono RP2_mono) hM_57
          replace hv_24 := hv_24.le RP2_mono hM_57
          replace hv_25 := hv_25.le (RSl_mono RP2_mono) hM_57
          replace hv_28 := hv_28.le RP2_mono hM_57
          replace hv_31 := hv_31.le (RSl_mono RP2_mono) hM_57
          replace hv_34 := hv_34.le RP2_mono hM_57
          replace hv_35 := hv_35.le (RSl_mono RP2_mono) hM_57
          replace hv_38 := hv_38.le RP2_mono hM_57
          replace hv_41 := hv_41.le (RSl_mono RP2_mono) hM_57
          replace hv_44 := hv_44.le RP2_mono hM_57
          replace hv_48 := hv_48.le RP2_mono hM_57
          replace hv_54 := hv_54.le RP2_mono hM_57
          replace hv_56 := hv_56.le RP2_mono hM_57
          refine S_x (X_buildM (R := (RSl 2 RP2)) (vs := [v_54, v_56, v_58]) (xs := [l0, l1, l2]) (RSl_mono RP2_mono) E S rfl T76 rfl rfl rfl (by intro u hu; simp only [List.mem_cons, List.not_mem_nil, or_false] at hu; rcases hu with rfl | rfl | rfl <;> first | exact RdS.one' hv_54 | exact RdS.one' hv_56 | exact RdS.one' hv_58) rfl (rowsC (R := (RSl 2 RP2)) ⟨_, rfl, hv_54⟩ (rowsC (R := (RSl 2 RP2)) ⟨_, rfl, hv_56⟩ (rowsC (R := (RSl 2 RP2)) ⟨_, rfl, hv_58⟩ rowsN))) ?_)
          clear E a S; rintro a v_59 w M_60 hM_60 hv_59 S E
          replace h0 := h0.le RP2_mono hM_60
          replace h1 := h1.le RP2_mono hM_60
          replace h2 := h2.le RP2_mono hM_60
          replace hv_4 := hv_4.le RP2_mono hM_60
          replace hv_6 := hv_6.le RP2_mono hM_60
          replace hv_8 := hv_8.le (RSl_mono RP2_mono) hM_60
          replace hv_11 := hv_11.le RP2_mono hM_60
          replace hv_13 := hv_13.le (RSl_mono RP2_mono) hM_60
          replace hv_17 := hv_17.le (RSl_mono RP2_mono) hM_60
          replace hv_20 := hv_20.le RP2_mono hM_60
          replace hv_21 := hv_21.le (RSl_mono RP2_mono) hM_60
          replace hv_24 := hv_24.le RP2_mono hM_60
          replace hv_25 := hv_25.le (RSl_mono RP2_mono) hM_60
          replace hv_28 := hv_28.le RP2_mono hM_60
          replace hv_31 := hv_31.le (RSl_mono RP2_mono) hM_60
          replace hv_34 := hv_34.le RP2_mono hM_60
          replace hv_35 := hv_35.le (RSl_mono RP2_mono) hM_60
          replace hv_38 := hv_38.le RP2_mono hM_60
          replace hv_41 := hv_41.le (RSl_mono RP2_mono) hM_60
          replace hv_44 := hv_44.le RP2_mono hM_60
          replace hv_48 := hv_48.le RP2_mono hM_60
          replace hv_54 := hv_54.le RP2_mono hM_60
          replace hv_56 := hv_56.le RP2_mono hM_60
          replace hv_58 := hv_58.le RP2_mono hM_60
          refine S_x (X_pu E S rfl rfl rfl (spec_Assign hv_59 (by first | omega | (simp; done) | (simp; omega)) (by first | omega | (simp; done) | (simp; omega))) (Hp.le.refl _) ?_)
          clear E a S; rintro a v_62 w M_61 hM_61 hv_62 S E
          replace h0 := h0.le RP2_mono hM_61
          replace h1 := h1.le RP2_mono hM_61
          replace h2 := h2.le RP2_mono hM_61
          replace hv_4 := hv_4.le RP2_mono hM_61
          replace hv_6 := hv_6.le RP2_mono hM_61
          replace hv_8 := hv_8.le (RSl_mono RP2_mono) hM_61
          replace hv_11 := hv_11.le RP2_mono hM_61
          replace hv_13 := hv_13.le (RSl_mono RP2_mono) hM_61
          replace hv_17 := hv_17.le (RSl_mono RP2_mono) hM_61
          replace hv_20 := hv_20.le RP2_mono hM_61
          replace hv_21 := hv_21.le (RSl_mono RP2_mono) hM_61
          replace hv_24 := hv_24.le RP2_mono hM_61
          replace hv_25 := hv_25.le (RSl_mono RP2_mono) hM_61
          replace hv_28 := hv_28.le RP2_mono hM_61
          replace hv_31 := hv_31.le (RSl_mono RP2_mono) hM_61
          replace hv_34 := hv_34.le RP2_mono hM_61
          replace hv_35 := hv_35.le (RSl_mono RP2_mono) hM_61
          replace hv_38 := hv_38.le RP2_mono hM_61
          replace hv_41 := hv_41.le (RSl_mono RP2_mono) hM_61
          replace hv_44 := hv_44.le RP2_mono hM_61
          replace hv_48 := hv_48.le RP2_mono hM_61
          replace hv_54 := hv_54.le RP2_mono hM_61
          replace hv_56 := hv_56.le RP2_mono hM_61
          replace hv_58 := hv_58.le RP2_mono hM_61
          replace hv_59 := hv_59.le (RSl_mono RP2_mono) hM_61
          refine S_x (X_pu E S rfl rfl rfl (laws_eqRef hv_24 hv_62) (Hp.le.refl _) ?_)
          clear E a S; rintro a _ w M_63 hM_63 rfl S E
          replace h0 := h0.le RP2_mono hM_63
          replace h1 := h1.le RP2_mono hM_63
          replace h2 := h2.le RP2_mono hM_63
          replace hv_4 := hv_4.le RP2_mono hM_63
          replace hv_6 := hv_6.le RP2_mono hM_63
          replace hv_8 := hv_8.le (RSl_mono RP2_mono) hM_63
          replace hv_11 := hv_11.le RP2_mono hM_63
          replace hv_13 := hv_13.le (RSl_mono RP2_mono) hM_63
          replace hv_17 := hv_17.le (RSl_mono RP2_mono) hM_63
          replace hv_20 := hv_20.le RP2_mono hM_63
          replace hv_21 := hv_21.le (RSl_mono RP2_mono) hM_63
          replace hv_24 := hv_24.le RP2_mono hM_63
          replace hv_25 := hv_25.le (RSl_mono RP2_mono) hM_63
          replace hv_28 := hv_28.le RP2_mono hM_63
          replace hv_31 := hv_31.le (RSl_mono RP2_mono) hM_63
          replace hv_34 := hv_34.le RP2_mono hM_63
          replace hv_35 := hv_35.le (RSl_mono RP2_mono) hM_63
          replace hv_38 := hv_38.le RP2_mono hM_63
          replace hv_41 := hv_41.le (RSl_mono RP2_mono) hM_63
          replace hv_44 := hv_44.le RP2_mono hM_63
          replace hv_48 := hv_48.le RP2_mono hM_63
          replace hv_54 := hv_54.le RP2_mono hM_63
          replace hv_56 := hv_56.le RP2_mono hM_63
          replace hv_58 := hv_58.le RP2_mono hM_63
          replace hv_59 := hv_59.le (RSl_mono RP2_mono) hM_63
          replace hv_62 := hv_62.le RP2_mono hM_63
          refine S_v E rfl (R_move E rfl) rfl ?_
          clear E a; intro a E
          have hc_64 : (decide (entE ([l0, l1, l2]).flatten = entE ([l0, l1, l2]).flatten)) = true := by (clear S E; first | (simp; done) | decide | (simp [entE, mkE, putK, srtK_len]; done) | (first | refine dec_t ?_ | refine dec_f ?_); first | (refine ent_ext ?_; funext key_; simp [lkE_app, lk_ent, lk_mkE, lkE_nil, lkE_one, Option.or_assoc, Option.getD_or]; done) | (simp [lkE_app, lk_ent, lk_mkE, lkE_nil, lkE_one, Option.or_assoc, Option.getD_or]; done))
          replace E := E.val (t := 102) rfl hc_64
          replace E := E.val (t := 103) rfl hc_64
          refine WL_guard_yes E rfl rfl ?_
          refine S_v E rfl (R_move E rfl) rfl ?_
          clear E a; intro a E
          refine WL_guard_yes E rfl rfl ?_
          refine S_v E rfl (R_move E rfl) rfl ?_
          clear E a; intro a E
          refine WL_guard_yes E rfl rfl ?_
          refine S_v E rfl (R_move E rfl) rfl ?_
          clear E a; intro a E
          refine WL_guard_yes E rfl rfl ?_
          refine S_x (X_pu E S rfl rfl rfl (impl_ValueOr hv_20) (Hp.le.refl _) ?_)
          clear E a S; rintro a _ w M_65 hM_65 rfl S E
          replace h0 := h0.le RP2_mono hM_65
          replace h1 := h1.le RP2_mono hM_65
          replace h2 := h2.le RP2_mono hM_65
          replace hv_4 := hv_4.le RP2_mono hM_65
          replace hv_6 := hv_6.le RP2_mono hM_65
          replace hv_8 := hv_8.le (RSl_mono RP2_mono) hM_65
          replace hv_11 := hv_11.le RP2_mono hM_65
          replace hv_13 := hv_13.le (RSl_mono RP2_mono) hM_65
          replace hv_17 := hv_17.le (RSl_mono RP2_mono) hM_65
          replace hv_20 := hv_20.le RP2_mono hM_65
          replace hv_21 := hv_21.le (RSl_mono RP2_mono) hM_65
          replace hv_24 := hv_24.le RP2_mono hM_65
          replace hv_25 := hv_25.le (RSl_mono RP2_mono) hM_65
          replace hv_28 := hv_28.le RP2_mono hM_65
          replace hv_31 := hv_31.le (RSl_mono RP2_mono) hM_65
          replace hv_34 := hv_34.le RP2_mono hM_65
          replace hv_35 := hv_35.le (RSl_mono RP2_mono) hM_65
          replace hv_38 := hv_38.le RP2_mono hM_65
          replace hv_41 := hv_41.le (RSl_mono RP2_mono) hM_65
          replace hv_44 := hv_44.le RP2_mono hM_65
          replace hv_48 := hv_48.le RP2_mono hM_65
          replace hv_54 := hv_54.le RP2_mono hM_65
          replace hv_56 := hv_56.le RP2_mono hM_65
          replace hv_58 := hv_58.le RP2_mono hM_65
          replace hv_59 := hv_59.le (RSl_mono RP2_mono) hM_65
          replace hv_62 := hv_62.le RP2_mono hM_65
          refine WL_guard_yes E rfl rfl ?_
          refine S_v E rfl (R_move E rfl) rfl ?_
          clear E a; intro a E
          refine WL_guard_yes E rfl rfl ?_
          refine S_v E rfl (R_eql E rfl rfl) rfl ?_
          clear E a; intro a E
          refine S_v E rfl (R_pickT E rfl rfl) rfl ?_
          clear E a; intro a E
          refine S_v E rfl (R_move E rfl) rfl ?_
          clear E a; intro a E
          have hc_66 : (decide ((lkE (entE ([l0, l1]).flatten) x3).getD x4 = (lkE l1 x3).getD ((lkE l0 x3).getD x4))) = true := by (clear S E; first | (simp; done) | decide | (simp [entE, mkE, putK, srtK_len]; done) | (first | refine dec_t ?_ | refine dec_f ?_); first | (refine ent_ext ?_; funext key_; simp [lkE_app, lk_ent, lk_mkE, lkE_nil, lkE_one, Option.or_assoc, Option.getD_or]; done) | (simp [lkE_app, lk_ent, lk_mkE, lkE_nil, lkE_one, Option.or_assoc, Option.getD_or]; done))
          replace E := E.val (t := 109) rfl hc_66
          replace E := E.val (t := 110) rfl hc_66
          replace E := E.val (t := 111) rfl hc_66
          refine WL_guard_yes E rfl rfl ?_
          refine S_v E rfl (R_move E rfl) rfl ?_
          clear E a; intro a E
          refine WL_guard_yes E rfl rfl ?_
          refine S_x (X_pu E S rfl rfl rfl (laws_pairs hv_20 (by first | omega | (simp [ixm_len]; done) | (simp [ixm_len]; omega) | (have h9 := kpix_len _ _ _; exact Nat.le_trans h9 (by omega)) | exact Nat.le_trans (kpix_len _ _ _) (by first | omega | (simp; omega)))) (Hp.le.refl _) ?_)
          clear E a S; rintro a v_68 w M_67 hM_67 hv_68 S E
          replace h0 := h0.le RP2_mono hM_67
          replace h1 := h1.le RP2_mono hM_67
          replace h2 := h2.le RP2_mono hM_67
          replace hv_4 := hv_4.le RP2_mono hM_67
          replace hv_6 := hv_6.le RP2_mono hM_67
          replace hv_8 := hv_8.le (RSl_mono RP2_mono) hM_67
          replace hv_11 := hv_11.le RP2_mono hM_67
          replace hv_13 := hv_13.le (RSl_mono RP2_mono) hM_67
          replace hv_17 := hv_17.le (RSl_mono RP2_mono) hM_67
          replace hv_20 := hv_20.le RP2_mono hM_67
          replace hv_21 := hv_21.le (RSl_mono RP2_mono) hM_67
          replace hv_24 := hv_24.le RP2_mono hM_67
          replace hv_25 := hv_25.le (RSl_mono RP2_mono) hM_67
          replace hv_28 := hv_28.le RP2_mono hM_67
          replace hv_31 := hv_31.le (RSl_mono RP2_mono) hM_67
          replace hv_34 := hv_34.le RP2_mono hM_67
          replace hv_35 := hv_35.le (RSl_mono RP2_mono) hM_67
          replace hv_38 := hv_38.le RP2_mono hM_67
          replace hv_41 := hv_41.le (RSl_mono RP2_mono) hM_67
          replace hv_44 := hv_44.le RP2_mono hM_67
          replace hv_48 := hv_48.le RP2_mono hM_67
          replace hv_54 := hv_54.le RP2_mono hM_67
          replace hv_56 := hv_56.le RP2_mono hM_67
          replace hv_58 := hv_58.le RP2_mono hM_67
          replace hv_59 := hv_59.le (RSl_mono RP2_mono) hM_67
          replace hv_62 := hv_62.le RP2_mono hM_67
          refine WL_guard_yes E rfl rfl ?_
          refine S_v E rfl (R_move E rfl) rfl ?_
          clear E a; intro a E
          refine WL_guard_yes E rfl rfl ?_
          refine S_v E rfl (R_move E rfl) rfl ?_
          clear E a; intro a E
          refine WL_guard_yes E rfl rfl ?_
          refine S_x (X_pu E S rfl rfl rfl (spec_ValueOr hv_68) (Hp.le.refl _) ?_)
          clear E a S; rintro a _ w M_69 hM_69 rfl S E
          replace h0 := h0.le RP2_mono hM_69
          replace h1 := h1.le RP2_mono hM_69
          replace h2 := h2.le RP2_mono hM_69
          replace hv_4 := hv_4.le RP2_mono hM_69
          replace hv_6 := hv_6.le RP2_mono hM_69
          replace hv_8 := hv_8.le (RSl_mono RP2_mono) hM_69
          replace hv_11 := hv_11.le RP2_mono hM_69
          replace hv_13 := hv_13.le (RSl_mono RP2_mono) hM_69
          replace hv_17 := hv_17.le (RSl_mono RP2_mono) hM_69
          replace hv_20 := hv_20.le RP2_mono hM_69
          replace hv_21 := hv_21.le (RSl_mono RP2_mono) hM_69
          replace hv_24 := hv_24.le RP2_mono hM_69
          replace hv_25 := hv_25.le (RSl_mono RP2_mono) hM_69
          replace hv_28 := hv_28.le RP2_mono hM_69
          replace hv_31 := hv_31.le (RSl_mono RP2_mono) hM_69
          replace hv_34 := hv_34.le RP2_mono hM_69
          replace hv_35 := hv_35.le (RSl_mono RP2_mono) hM_69
          replace hv_38 := hv_38.le RP2_mono hM_69
          replace hv_41 := hv_41.le (RSl_mono RP2_mono) hM_69
          replace hv_44 := hv_44.le RP2_mono hM_69
          replace hv_48 := hv_48.le RP2_mono hM_69
          replace hv_54 := hv_54.le RP2_mono hM_69
          replace hv_56 := hv_56.le RP2_mono hM_69
          replace hv_58 := hv_58.le RP2_mono hM_69
          replace hv_59 := hv_59.le (RSl_mono RP2_mono) hM_69
          replace hv_62 := hv_62.le RP2_mono hM_69
          replace hv_68 := hv_68.le RP2_mono hM_69
          refine WL_guard_yes E rfl rfl ?_
          refine S_v E rfl (R_move E rfl) rfl ?_
          clear E a; intro a E
          refine WL_guard_yes E rfl rfl ?_
          refine S_v E rfl (R_eql E rfl rfl) rfl ?_
          clear E a; intro a E
          refine S_v E rfl (R_pickT E rfl rfl) rfl ?_
          clear E a; intro a E
          refine S_v E rfl (R_assign E rfl) rfl ?_
          clear E a; intro a E
          refine WL_nil ?_
          refine T_n ?_
          refine WP_ret ?_
          exact F_ret1 E Try.results8 rfl ⟨_, rfl, M_69, (hM_5.trans (hM_7.trans (hM_9.trans (hM_10.trans (hM_14.trans (hM_15.trans (hM_18.trans (hM_19.trans (hM_22.trans (hM_23.trans (hM_26.trans (hM_27.trans (hM_29.trans (hM_32.trans (hM_33.trans (hM_36.trans (hM_37.trans (hM_39.trans (hM_42.trans (hM_43.trans (hM_45.trans (hM_47.trans (hM_49.trans (hM_51.trans (hM_52.trans (hM_53.trans (hM_55.trans (hM_57.trans (hM_60.trans (hM_61.trans (hM_63.trans (hM_65.trans (hM_67.trans hM_69))))))))))))))))))))))))))))))))), (congrArg Value.bool (by (clear S E; first | (simp; done) | decide | (simp [entE, mkE, putK, srtK_len]; done) | (first | refine dec_t ?_ | refine dec_f ?_); first | (refine ent_ext ?_; funext key_; simp [lkE_app, lk_ent, lk_mkE, lkE_nil, lkE_one, Option.or_assoc, Option.getD_or]; done) | (simp [lkE_app, lk_ent, lk_mkE, lkE_nil, lkE_one, Option.or_assoc, Option.getD_or]; done)))), S⟩

end Go.Proofs.Ytahbobhbookehaa.wFnAssigned
