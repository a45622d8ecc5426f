/- Walks through the functions that laws.FnKeysValues reaches: what each computes; no conditions beyond what each theorem states. -/
import Derived.Test.YtahbobhbookehaaGreatWFnKeysValuesb
set_option linter.unusedVariables false
set_option linter.unusedSimpArgs false
namespace Go.Proofs.YtahbobhbookehaaGreat.wFnKeysValues
open Go Go.Sl
set_option maxRecDepth 100000 in
set_option maxHeartbeats 4000000 in
theorem laws_zzFits1 {M : Hp} {pk0 pn0 : Int} {w0 : Value} {pl0 : List Int} (hw0 : RdI M w0 pl0) (gn0 : -9223372036854775808 ≤ pn0 ∧ pn0 ≤ 9223372036854775807) :
    Pu Tryz.prog (.func (.func 28) #[] #[]) M [.agg #[.int .i64 pk0, .int .i64 pn0, w0]] (fun r M' => r = .bool (decide ((pl0).length ≤ 2147483647))) := by
  refine Pu_enter Tryz.func28 rfl Tryz.ntmps28 rfl Tryz.call28 ?_
  intro a w M1 H hM1 S E
  replace hw0 := hw0.le hM1
  have bw0 := hw0.bound
  refine WP_seq ?_
  refine WP_region ?_
  refine S_x (X_box (cs := #[.int .i64 pk0, .int .i64 pn0, w0]) E S rfl rfl rfl ?_)
  clear E a S; rintro a w b_1 E S
  obtain ⟨M_2, hM_2, hb_1, S⟩ := S.freezeB
  replace hw0 := hw0.le hM_2
  refine S_v E rfl (R_assign E rfl) rfl ?_
  clear E a; intro a E
  refine WL_nil ?_
  refine T_n ?_
  refine WP_seq ?_
  refine WP_seq ?_
  refine WP_region ?_
  refine S_v E rfl (R_fieldAddr E rfl (FA38_2 _)) rfl ?_
  clear E a; intro a E
  refine S_v E rfl (R_loadM E rfl Tryz.isAgg22 S.imm (cellM_boxo hb_1 rfl)) rfl ?_
  clear E a; intro a E
  refine S_v E rfl (R_lenV E rfl T22 hw0.len) rfl ?_
  clear E a; intro a E
  refine S_v E rfl (R_gtr E rfl rfl) rfl ?_
  clear E a; intro a E
  refine WL_nil ?_
  refine T_n ?_
  refine WP_cond E rfl (fun hc_3 => ?_) (fun hc_3 => ?_)
  · replace hc_3 := of_decide_eq_true hc_3
    refine WP_seq ?_
    refine WP_region ?_
    refine S_v E rfl (R_assign E rfl) rfl ?_
    clear E a; intro a E
    refine WL_nil ?_
    refine T_n ?_
    refine WP_ret ?_
    refine T_r ?_
    exact F_ret1 E Tryz.results28 rfl ⟨_, rfl, M_2, hM_2, (bF (by ((try clear S); (try clear E); first | assumption | omega | rfl | (simp; done) | (simp_all; done) | (simp [List.take_add_one, *]; done) | grind [List.take_add_one]))), S⟩
  · replace hc_3 := of_decide_eq_false hc_3
    refine WP_skip ?_
    refine T_n ?_
    refine WP_seq ?_
    refine WP_region ?_
    refine S_v E rfl (R_assign E rfl) rfl ?_
    clear E a; intro a E
    refine WL_nil ?_
    refine T_n ?_
    refine WP_ret ?_
    exact F_ret1 E Tryz.results28 rfl ⟨_, rfl, M_2, hM_2, (bT (by ((try clear S); (try clear E); first | assumption | omega | rfl | (simp; done) | (simp_all; done) | (simp [List.take_add_one, *]; done) | grind [List.take_add_one]))), S⟩

set_option maxRecDepth 100000 in
set_option maxHeartbeats 4000000 in
theorem impl_mapOf {M : Hp} {v0 : Value} {l0 : List (Int × Int)} (h0 : RdS 2 RP2 M v0 l0) :
    Pu Tryz.prog (.func (.func 64) #[] #[]) M [v0] (fun r M' => RdM M' r (encE (Value.int .i64) (mkE l0))) := by
  refine Pu_enter Tryz.func64 rfl Tryz.ntmps64 rfl Tryz.call64 ?_
  intro a w M1 H hM1 S E
  replace h0 := h0.le RP2_mono hM1
  have b0 := h0.bound
  refine WP_seq ?_
  refine WP_region ?_
  refine S_v E rfl (R_assign E rfl) rfl ?_
  clear E a; intro a E
  refine WL_nil ?_
  refine T_n ?_
  refine WP_seq ?_
  refine WP_region ?_
  refine S_x (X_makeMap E S rfl ?_)
  clear E a S; rintro a w b_1 E S
  replace S : St w M1 (OwnE (Value.int .i64) b_1 ([] : List (Int × Int)) :: _) := S
  refine S_v E rfl (R_assign E rfl) rfl ?_
  clear E a; intro a E
  refine WL_nil ?_
  refine T_n ?_
  refine WP_seq ?_
  refine WP_seq ?_
  refine WP_region ?_
  refine S_v E rfl (R_move E rfl) rfl ?_
  clear E a; intro a E
  refine S_v E rfl (R_lenV E rfl T25 h0.len) rfl ?_
  clear E a; intro a E
  refine S_v E rfl (R_move E rfl) rfl ?_
  clear E a; intro a E
  refine WL_nil ?_
  refine T_n ?_
  refine WP_block ?_
  replace S := S.reM (L' := (encE (Value.int .i64) (mkE (l0.take 0)))) (congrArg (encE (Value.int .i64)) (show ([] : List (Int × Int)) = mkE (l0.take 0) by first | rfl | (simp [mkE]; done) | (rw [tk_snoc (by assumption), mkE_app]; done)))
  refine WP_loop (γ := Nat) (fun (k : Nat) a w => ∃ (M_2 : Hp), Hp.le M1 M_2 ∧ St w M_2 (OwnE (Value.int .i64) b_1 (mkE (l0.take k)) :: H) ∧ Env a 20 [] [(3, .map (some b_1)), (7, v0), (8, .int .i64 (((l0).length : Nat) : Int)), (9, .int .i64 ((k : Nat) : Int))] ∧ (k ≤ (l0).length)) (fun k => ((l0).length) - k) 0 ⟨M1, Hp.le.refl _, S, E.keep ⟨rfl, rfl, rfl, rfl, trivial⟩, by ((try clear S); (try clear E); first | assumption | omega | rfl | (simp; done) | (simp_all; done) | (simp [List.take_add_one, *]; done) | grind [List.take_add_one])⟩ ?_
  try clear E
  try clear S
  try clear a
  try clear w
  rintro k a w ⟨M_2, hM_2, S, E, hL0_0⟩
  replace h0 := h0.le RP2_mono hM_2
  refine WP_seq ?_
  refine WP_region ?_
  refine S_v E rfl (R_lss E rfl rfl) rfl ?_
  clear E a; intro a E
  refine WL_nil ?_
  refine T_n ?_
  refine WP_seq ?_
  refine WP_cond E rfl (fun hc_3 => ?_) (fun hc_3 => ?_)
  · replace hc_3 := of_decide_eq_true hc_3
    refine WP_skip ?_
    refine T_n ?_
    refine WP_seq ?_
    refine WP_block ?_
    refine WP_seq ?_
    refine WP_region ?_
    obtain ⟨x_4, hx_4⟩ : ∃ x, (l0)[k]? = some x := ⟨_, List.getElem?_eq_getElem (by first | omega | (simp; done) | (simp; omega) | (simp_all; omega))⟩
    obtain ⟨p_5, hp_5, qp_5⟩ := RdP2.at h0 hx_4
    refine S_v E rfl (R_idx E rfl rfl T25 hp_5 rfl) rfl ?_
    clear E a; intro a E
    refine S_v E rfl (R_loadA (cs := [.int .i64 x_4.1, .int .i64 x_4.2]) E rfl (Tryz.isAgg29 _) (Tryz.sizeOf29 _) S.imm qp_5) rfl ?_
    clear E a; intro a E
    refine S_x (X_alloc (cs := #[.int .i64 0, .int .i64 0]) E S rfl Tryz.zeroValue29 rfl ?_)
    clear E a S; rintro a w b_6 E S
    refine S_x0 (X_storeG (us := [.int .i64 x_4.1, .int .i64 x_4.2]) E S rfl rfl (Tryz.sizeOf29 _) rfl (by intro u hu; simp only [List.mem_cons, List.not_mem_nil, or_false] at hu; rcases hu with rfl | rfl <;> first | exact rfl | exact rfl) ?_)
    clear E a S; rintro a w E S
    replace S : St w M_2 (blk b_6 (.cells #[.int .i64 x_4.1, .int .i64 x_4.2] 29) :: _) := S
    have S0 := S; clear S
    obtain ⟨M_7, hM_7, hb_8, S⟩ := S0.freezeB
    clear S0
    replace h0 := h0.le RP2_mono hM_7
    refine WL_nil ?_
    refine T_n ?_
    refine WP_region ?_
    refine S_v E rfl (R_move E rfl) rfl ?_
    clear E a; intro a E
    refine S_v E rfl (R_fieldAddr E rfl (FA29_0 _)) rfl ?_
    clear E a; intro a E
    refine S_v E rfl (R_loadM E rfl Tryz.isAgg3 S.imm (cellM_boxo hb_8 rfl)) rfl ?_
    clear E a; intro a E
    refine S_v E rfl (R_fieldAddr E rfl (FA29_1 _)) rfl ?_
    clear E a; intro a E
    refine S_v E rfl (R_loadM E rfl Tryz.isAgg3 S.imm (cellM_boxo hb_8 rfl)) rfl ?_
    clear E a; intro a E
    refine S_x0 (X_updateE (vf := (Value.int .i64)) (u := x_4.2) E S MT63 rfl rfl rfl ?_)
    clear E a S; rintro a w E S
    refine WL_nil ?_
    refine B_n ?_
    refine T_n ?_
    refine WP_region ?_
    refine S_v E rfl (R_addx (m := ((k + 1 : Nat) : Int)) E rfl rfl (by omega) (by omega)) rfl ?_
    clear E a; intro a E
    refine S_v E rfl (R_move E rfl) rfl ?_
    clear E a; intro a E
    refine WL_nil ?_
    refine T_n ?_
    replace S := S.reM (L' := (encE (Value.int .i64) (mkE (l0.take (k + 1))))) (congrArg (encE (Value.int .i64)) (show putK (mkE (l0.take k)) x_4.1 x_4.2 = mkE (l0.take (k + 1)) by first | rfl | (simp [mkE]; done) | (rw [tk_snoc (by assumption), mkE_app]; done)))
    exact ⟨k + 1, ⟨M_7, (hM_2.trans hM_7), S, E.keep ⟨rfl, rfl, rfl, rfl, trivial⟩, by ((try clear S); (try clear E); first | assumption | omega | rfl | (simp; done) | (simp_all; done) | (simp [List.take_add_one, *]; done) | grind [List.take_add_one])⟩, by omega⟩
  · replace hc_3 := of_decide_eq_false hc_3
    refine WP_exit ?_
    refine T_x ?_
    refine T_x ?_
    refine B_x ?_
    refine T_n ?_
    refine WP_seq ?_
    refine WP_region ?_
    refine S_v E rfl (R_move E rfl) rfl ?_
    clear E a; intro a E
    refine S_v E rfl (R_assign E rfl) rfl ?_
    clear E a; intro a E
    refine WL_nil ?_
    refine T_n ?_
    refine WP_ret ?_
    have S0 := S; clear S
    obtain ⟨M_9, hM_9, hm_10, S⟩ := S0.freezeM
    clear S0
    replace h0 := h0.le RP2_mono hM_9
    exact F_ret1 E Tryz.results64 rfl ⟨_, rfl, M_9, (hM_2.trans hM_9), (by rw [show (mkE l0) = (mkE (l0.take k)) from by (rw [List.take_of_length_le (by omega)])]; exact hm_10), S⟩

set_option maxRecDepth 100000 in
set_option maxHeartbeats 4000000 in
theorem lo_Keys {M : Hp} {v0 : Value} {l0 : List (List (Int × Int))} (h0 : RdS 1 RMp M v0 l0) (hb : l0.flatten.length ≤ 1000000000000) :
    Pu Tryz.prog (.func (.func 66) #[] #[]) M [v0] (fun r M' => ∃ p_, RdI M' r p_ ∧ p_.Perm (((l0).flatten).map Prod.fst)) := by
  refine Pu_enter Tryz.func66 rfl Tryz.ntmps66 rfl Tryz.call66 ?_
  intro a w M1 H hM1 S E
  replace h0 := h0.le RMp_mono hM1
  have b0 := h0.bound
  refine WP_seq ?_
  refine WP_region ?_
  refine S_v E rfl (R_assign E rfl) rfl ?_
  clear E a; intro a E
  refine WL_nil ?_
  refine T_n ?_
  refine WP_seq ?_
  refine WP_region ?_
  refine S_v E rfl (R_assign E rfl) rfl ?_
  clear E a; intro a E
  refine WL_nil ?_
  refine T_n ?_
  refine WP_seq ?_
  refine WP_seq ?_
  refine WP_region ?_
  refine S_v E rfl (R_move E rfl) rfl ?_
  clear E a; intro a E
  refine S_v E rfl (R_lenV E rfl T70 h0.len) rfl ?_
  clear E a; intro a E
  refine S_v E rfl (R_move E rfl) rfl ?_
  clear E a; intro a E
  refine WL_nil ?_
  refine T_n ?_
  refine WP_block ?_
  refine WP_loop (γ := Nat) (fun (k : Nat) a w => ∃ (M_1 : Hp), Hp.le M1 M_1 ∧ St w M_1 (H) ∧ Env a 43 [] [(0, v0), (3, .int .i64 ((((l0.take k).flatten).length : Nat) : Int)), (9, .int .i64 (((l0).length : Nat) : Int)), (10, .int .i64 ((k : Nat) : Int))] ∧ (k ≤ (l0).length)) (fun k => ((l0).length) - k) 0 ⟨M1, Hp.le.refl _, S, E.keep ⟨rfl, look_nat (i := 0) rfl (by (simp)), rfl, rfl, trivial⟩, by ((try clear S); (try clear E); first | assumption | omega | rfl | (simp; done) | (simp_all; done) | (simp [List.take_add_one, *]; done) | grind [List.take_add_one])⟩ ?_
  try clear E
  try clear S
  try clear a
  try clear w
  rintro k a w ⟨M_1, hM_1, S, E, hL0_0⟩
  replace h0 := h0.le RMp_mono hM_1
  have hfl := fl_le l0 k
  refine WP_seq ?_
  refine WP_region ?_
  refine S_v E rfl (R_lss E rfl rfl) rfl ?_
  clear E a; intro a E
  refine WL_nil ?_
  refine T_n ?_
  refine WP_seq ?_
  refine WP_cond E rfl (fun hc_2 => ?_) (fun hc_2 => ?_)
  · replace hc_2 := of_decide_eq_true hc_2
    refine WP_skip ?_
    refine T_n ?_
    refine WP_seq ?_
    refine WP_block ?_
    refine WP_seq ?_
    refine WP_region ?_
    refine S_v E rfl (R_move E rfl) rfl ?_
    clear E a; intro a E
    refine S_v E rfl (R_assign E rfl) rfl ?_
    clear E a; intro a E
    refine WL_nil ?_
    refine T_n ?_
    refine WP_region ?_
    refine S_v E rfl (R_move E rfl) rfl ?_
    clear E a; intro a E
    refine S_v E rfl (R_move E rfl) rfl ?_
    clear E a; intro a E
    refine S_v E rfl (R_move E rfl) rfl ?_
    clear E a; intro a E
    obtain ⟨x_3, hx_3⟩ : ∃ x, (l0)[k]? = some x := ⟨_, List.getElem?_eq_getElem (by first | omega | (simp; done) | (simp; omega) | (simp_all; omega))⟩
    obtain ⟨p_4, u_5, hp_4, qp_4, hu_5⟩ := RdMp.at h0 hx_3
    refine S_v E rfl (R_idx E rfl rfl T70 hp_4 rfl) rfl ?_
    clear E a; intro a E
    refine S_v E rfl (R_loadM E rfl Tryz.isAgg63 S.imm qp_4) rfl ?_
    clear E a; intro a E
    refine S_v E rfl ((R_lenF S.imm hu_5 E MT63 rfl).trans (by rw [encE_len])) rfl ?_
    clear E a; intro a E
    refine S_v E rfl (R_addx (m := ((((l0.take k).flatten).length + (x_3).length : Nat) : Int)) E rfl rfl (by (have h9 := fl_lt (by assumption); omega)) (by (have h9 := fl_lt (by assumption); omega))) rfl ?_
    clear E a; intro a E
    refine S_v E rfl (R_assign E rfl) rfl ?_
    clear E a; intro a E
    refine WL_nil ?_
    refine B_n ?_
    refine T_n ?_
    refine WP_region ?_
    refine S_v E rfl (R_addx (m := ((k + 1 : Nat) : Int)) E rfl rfl (by (have h9 := fl_lt (by assumption); omega)) (by (have h9 := fl_lt (by assumption); omega))) rfl ?_
    clear E a; intro a E
    refine S_v E rfl (R_move E rfl) rfl ?_
    clear E a; intro a E
    refine WL_nil ?_
    refine T_n ?_
    exact ⟨k + 1, ⟨M_1, hM_1, S, E.keep ⟨rfl, look_nat (i := ((l0.take k).flatten).length + (x_3).length) rfl (by (rw [fl_succ (by assumption), List.length_append])), rfl, rfl, trivial⟩, by ((try clear S); (try clear E); first | assumption | omega | rfl | (simp; done) | (simp_all; done) | (simp [List.take_add_one, *]; done) | grind [List.take_add_one])⟩, by omega⟩
  · replace hc_2 := of_decide_eq_false hc_2
    refine WP_exit ?_
    refine T_x ?_
    refine T_x ?_
    refine B_x ?_
    refine T_n ?_
    refine WP_seq ?_
    refine WP_region ?_
    refine S_v E rfl (R_move E rfl) rfl ?_
    clear E a; intro a E
    refine S_x (X_make0 (k := ((l0.take k).flatten).length) E S rfl rfl rfl T22 rfl (by omega) (by (have h9 := fl_le l0 k; omega)) (by (have h9 := fl_le l0 k; omega)) ?_)
    clear E a S; rintro a w v_6 E S
    replace S := S.made0
    refine S_v E rfl (R_assign E rfl) rfl ?_
    clear E a; intro a E
    refine WL_nil ?_
    refine T_n ?_
    refine WP_seq ?_
    refine WP_seq ?_
    refine WP_region ?_
    refine S_v E rfl (R_move E rfl) rfl ?_
    clear E a; intro a E
    refine S_v E rfl (R_lenV E rfl T70 h0.len) rfl ?_
    clear E a; intro a E
    refine S_v E rfl (R_move E rfl) rfl ?_
    clear E a; intro a E
    refine WL_nil ?_
    refine T_n ?_
    refine WP_block ?_
    refine WP_loop (γ := Nat) (fun (k : Nat) a w => ∃ (M_7 : Hp) (q5 : ILst) (u5 : Value), Hp.le M_1 M_7 ∧ St w M_7 (OwnI 3 u5 q5 :: H) ∧ Env a 43 [] [(0, v0), (5, u5), (24, .int .i64 (((l0).length : Nat) : Int)), (25, .int .i64 ((k : Nat) : Int))] ∧ (k ≤ (l0).length) ∧ (q5.Perm (((l0.take k).flatten).map Prod.fst))) (fun k => ((l0).length) - k) 0 ⟨M_1, _, _, Hp.le.refl _, S, E.keep ⟨rfl, rfl, rfl, rfl, trivial⟩, by ((try clear S); (try clear E); first | assumption | omega | rfl | (simp; done) | (simp_all; done) | (simp [List.take_add_one, *]; done) | grind [List.take_add_one]), (by simp)⟩ ?_
    try clear E
    try clear S
    try clear a
    try clear w
    rintro k a w ⟨M_7, q5, u5, hM_7, S, E, hL1_0, hL1_1⟩
    replace h0 := h0.le RMp_mono hM_7
    refine WP_seq ?_
    refine WP_region ?_
    refine S_v E rfl (R_lss E rfl rfl) rfl ?_
    clear E a; intro a E
    refine WL_nil ?_
    refine T_n ?_
    refine WP_seq ?_
    refine WP_cond E rfl (fun hc_8 => ?_) (fun hc_8 => ?_)
    · replace hc_8 := of_decide_eq_true hc_8
      refine WP_skip ?_
      refine T_n ?_
      refine WP_seq ?_
      refine WP_block ?_
      refine WP_seq ?_
      refine WP_region ?_
      refine S_v E rfl (R_move E rfl) rfl ?_
      clear E a; intro a E
      refine S_v E rfl (R_assign E rfl) rfl ?_
      clear E a; intro a E
      refine WL_nil ?_
      refine T_n ?_
      refine WP_seq ?_
      refine WP_region ?_
      refine S_v E rfl (R_move E rfl) rfl ?_
      clear E a; intro a E
      refine S_v E rfl (R_move E rfl) rfl ?_
      clear E a; intro a E
      obtain ⟨x_9, hx_9⟩ : ∃ x, (l0)[k]? = some x := ⟨_, List.getElem?_eq_getElem (by first | omega | (simp; done) | (simp; omega) | (simp_all; omega))⟩
      obtain ⟨p_10, u_11, hp_10, qp_10, hu_11⟩ := RdMp.at h0 hx_9
      refine S_v E rfl (R_idx E rfl rfl T70 hp_10 rfl) rfl ?_
      clear E a; intro a E
      refine S_v E rfl (R_loadM E rfl Tryz.isAgg63 S.imm qp_10) rfl ?_
      clear E a; intro a E
      refine S_x (X_range E S rfl MT63 hu_11 rfl ?_)
      clear E a S; rintro a w i_12 es_13 ck_14 E hf_15 S
      replace S : St w M_7 (ItO u_11 es_13 ck_14 i_12 (encE (Value.int .i64) ([] : List (Int × Int))) :: _) := S
      refine WL_nil ?_
      refine T_n ?_
      refine WP_block ?_
      replace S := S.front1
      replace S := S.front1
      replace S := S.front1
      replace S := S.re1 (l' := q5 ++ ([] : List (Int × Int)).map Prod.fst) (by first | rfl | (simp; done))
      replace S := S.front1
      refine WP_loop (γ := List (Int × Int)) (fun (p : List (Int × Int)) a w => ∃ (M_16 : Hp) (u5 : Value), Hp.le M_7 M_16 ∧ St w M_16 (ItO u_11 es_13 ck_14 i_12 (encE (Value.int .i64) p) :: OwnI 3 u5 (q5 ++ p.map Prod.fst) :: H) ∧ Env a 43 [] [(0, v0), (5, u5), (24, .int .i64 (((l0).length : Nat) : Int)), (25, .int .i64 ((k : Nat) : Int)), (32, .pointer (some ⟨i_12, 0, none⟩))] ∧ ((p.map Prod.fst).Nodup) ∧ (∀ z ∈ p, z ∈ x_9) ∧ (p.length ≤ x_9.length)) (fun p => x_9.length - p.length) ([] : List (Int × Int)) ⟨M_7, _, Hp.le.refl _, S, E.keep ⟨rfl, rfl, rfl, rfl, rfl, trivial⟩, (by simp), (by simp), (by simp)⟩ ?_
      try clear E
      try clear S
      try clear a
      try clear w
      rintro p a w ⟨M_16, u5, hM_16, S, E, hL2_0, hL2_1, hL2_2⟩
      replace h0 := h0.le RMp_mono hM_16
      replace hu_11 := hu_11.le hM_16
      replace hf_15 := hf_15.le hM_16
      refine WP_seq ?_
      refine WP_region ?_
      refine S_x (X_nextE (vf := (Value.int .i64)) E S rfl hf_15 rfl (by assumption) (by assumption) ?_ ?_)
      · clear E a S; rintro a E hpm_17 S
        refine S_v E rfl (R_extract E rfl rfl) rfl ?_
        clear E a; intro a E
        refine WL_nil ?_
        refine T_n ?_
        refine WP_seq ?_
        refine WP_condF E rfl rfl ?_
        refine WP_exit ?_
        refine T_x ?_
        refine T_x ?_
        refine B_x ?_
        refine B_n ?_
        refine T_n ?_
        refine WP_region ?_
        refine S_v E rfl (R_addx (m := ((k + 1 : Nat) : Int)) E rfl rfl (by (have h9 := fl_lt (by assumption); omega)) (by (have h9 := fl_lt (by assumption); omega))) rfl ?_
        clear E a; intro a E
        refine S_v E rfl (R_move E rfl) rfl ?_
        clear E a; intro a E
        refine WL_nil ?_
        refine T_n ?_
        replace S := S.drop
        exact ⟨k + 1, ⟨M_16, _, _, (hM_7.trans hM_16), S, E.keep ⟨rfl, rfl, rfl, rfl, trivial⟩, by ((try clear S); (try clear E); first | assumption | omega | rfl | (simp; done) | (simp_all; done) | (simp [List.take_add_one, *]; done) | grind [List.take_add_one]), (by exact ky_step (by assumption) (by assumption) (by assumption))⟩, by omega⟩
      · clear E a S w; rintro a w k_18 u_20 E hk_19 hk_19n hk_19l S
        refine S_v E rfl (R_extract E rfl rfl) rfl ?_
        clear E a; intro a E
        refine WL_nil ?_
        refine T_n ?_
        refine WP_seq ?_
        refine WP_condT E rfl rfl ?_
        refine WP_skip ?_
        refine T_n ?_
        refine WP_block ?_
        refine WP_seq ?_
        refine WP_region ?_
        refine S_v E rfl (R_entry (k := k_18) (v := .int .i64 u_20) E (by have S1 := S; simp only [encE, List.map_append, List.map_cons, List.map_nil] at S1; exact S1) hf_15 rfl) rfl ?_
        clear E a; intro a E
        refine S_v E rfl (R_extract E rfl rfl) rfl ?_
        clear E a; intro a E
        refine S_v E rfl (R_assign E rfl) rfl ?_
        clear E a; intro a E
        refine WL_nil ?_
        refine T_n ?_
        refine WP_region ?_
        refine S_v E rfl (R_move E rfl) rfl ?_
        clear E a; intro a E
        refine S_v E rfl (R_move E rfl) rfl ?_
        clear E a; intro a E
        refine S_x (X_buildI (ys := [k_18]) E S rfl T22 rfl rfl rfl ?_)
        clear E a S; rintro a w v_21 E S
        replace S := S.front2
        replace S := S.front1
        refine S_x (X_appendB (xs := q5 ++ p.map Prod.fst) (ys := [k_18]) E S rfl rfl rfl T22 (by (have h9 := ky_lt (by assumption) (by assumption) (by assumption); have h8 := fl_in (by assumption); simp only [List.length_append, List.length_cons, List.length_nil] at *; omega)) ?_)
        clear E a S; rintro a w v_22 E S
        refine S_v E rfl (R_assign E rfl) rfl ?_
        clear E a; intro a E
        refine WL_nil ?_
        refine B_n ?_
        refine T_n ?_
        replace S := S.front1
        replace S := S.front1
        replace S := S.re1 (l' := q5 ++ (p ++ [(k_18, u_20)]).map Prod.fst) (by first | rfl | (simp; done))
        replace S := S.front1
        replace S := S.reIt (p' := (encE (Value.int .i64) (p ++ [(k_18, u_20)]))) (congrArg (encE (Value.int .i64)) (show p ++ [(k_18, u_20)] = (p ++ [(k_18, u_20)]) by first | rfl | (simp; done)))
        exact ⟨(p ++ [(k_18, u_20)]), ⟨M_16, _, hM_16, S, E.keep ⟨rfl, rfl, rfl, rfl, rfl, trivial⟩, (by exact snocNk (by assumption) (by assumption)), (by exact snocSk (by assumption) (by assumption)), (by simp; omega)⟩, (by simp; omega)⟩
    · replace hc_8 := of_decide_eq_false hc_8
      refine WP_exit ?_
      refine T_x ?_
      refine T_x ?_
      refine B_x ?_
      refine T_n ?_
      refine WP_seq ?_
      refine WP_region ?_
      refine S_v E rfl (R_move E rfl) rfl ?_
      clear E a; intro a E
      refine S_v E rfl (R_assign E rfl) rfl ?_
      clear E a; intro a E
      refine WL_nil ?_
      refine T_n ?_
      refine WP_ret ?_
      have S0 := S; clear S
      obtain ⟨M_23, hM_23, hz_24, S⟩ := S0.freezeI (by (have h9 := ky_len (by assumption); omega))
      clear S0
      replace h0 := h0.le RMp_mono hM_23
      exact F_ret1 E Tryz.results66 rfl ⟨_, rfl, M_23, (hM_1.trans (hM_7.trans hM_23)), ⟨_, hz_24, by (rw [← List.take_of_length_le (l := l0) (i := k) (by omega)]; assumption)⟩, S⟩

set_option maxRecDepth 100000 in
set_option maxHeartbeats 4000000 in
theorem impl_fresh {M : Hp} {v0 : Value} {l0 : List Int} (h0 : RdI M v0 l0)(hb : l0.length ≤ 1000000000000) :
    Sp Tryz.prog (.func (.func 93) #[] #[]) M [v0] [] (fun r M' C' => C' = [OwnI 3 r l0]) := by
  refine Sp_enter Tryz.func93 rfl Tryz.ntmps93 rfl Tryz.call93 ?_
  intro a w M1 H hM1 S E
  replace h0 := h0.le hM1
  have b0 := h0.bound
  refine WP_seq ?_
  refine WP_region ?_
  refine S_v E rfl (R_assign E rfl) rfl ?_
  clear E a; intro a E
  refine WL_nil ?_
  refine T_n ?_
  refine WP_seq ?_
  refine WP_region ?_
  refine S_x (X_buildI (ys := []) E S rfl T22 rfl rfl rfl ?_)
  clear E a S; rintro a w v_1 E S
  refine S_v E rfl (R_move E rfl) rfl ?_
  clear E a; intro a E
  refine S_x (X_appendI (xs := ([] : List Int)) E S rfl rfl rfl T22 h0 (by first | omega | (simp; done) | (simp; omega) | (simp_all; omega)) ?_)
  clear E a S; rintro a w v_2 E S
  refine S_v E rfl (R_assign E rfl) rfl ?_
  clear E a; intro a E
  refine WL_nil ?_
  refine T_n ?_
  refine WP_ret ?_
  replace S := S.re1 (l' := l0) (by ((try clear S); (try clear E); first | assumption | omega | rfl | (simp; done) | (simp_all; done) | (simp [List.take_add_one, *]; done) | grind [List.take_add_one]))
  exact F_ret1 E Tryz.results93 rfl ⟨_, rfl, M1, _, (Hp.le.refl _), rfl, S⟩

set_option maxRecDepth 100000 in
set_option maxHeartbeats 4000000 in
def Tryz.lsort_ren : Go.Shelf.Ren := ⟨fun | 5 => 105 | 8 => 103 | 7 => 127 | 19 => 117 | 20 => 118 | 10 => 133 | 11 => 134 | 12 => 135 | 13 => 136 | 14 => 137 | 15 => 138 | 16 => 139 | 17 => 140 | 18 => 141 | 30 => 143 | 31 => 144 | 32 => 145 | 33 => 146 | 34 => 147 | 35 => 148 | 40 => 149 | n => n, fun | 23 => 22 | 25 => 3 | 3 => 3 | 32 => 107 | 22 => 22 | 0 => 0 | 44 => 115 | 46 => 117 | 4 => 4 | 36 => 135 | 35 => 134 | 41 => 124 | 5 => 5 | 9 => 9 | 53 => 143 | 57 => 131 | 63 => 146 | 64 => 141 | n => n, fun | n => n⟩
set_option maxRecDepth 100000 in
set_option maxHeartbeats 4000000 in
theorem Tryz.lsort : Go.Proofs.SlLaysM.n5 Tryz.prog Tryz.lsort_ren := {
  mixed := by kernel_rfl,
  f5 := ⟨Tryz.f105.name, by decide, Tryz.func105.trans (congrArg some (by kernel_rfl))⟩,
  f7 := ⟨Tryz.f127.name, by decide, Tryz.func127.trans (congrArg some (by kernel_rfl))⟩,
  f8 := Tryz.func103.trans (congrArg some (by kernel_rfl)),
  f10 := ⟨Tryz.f133.name, by decide, Tryz.func133.trans (congrArg some (by kernel_rfl))⟩,
  f11 := ⟨Tryz.f134.name, by decide, Tryz.func134.trans (congrArg some (by kernel_rfl))⟩,
  f12 := ⟨Tryz.f135.name, by decide, Tryz.func135.trans (congrArg some (by kernel_rfl))⟩,
  f13 := ⟨Tryz.f136.name, by decide, Tryz.func136.trans (congrArg some (by kernel_rfl))⟩,
  f14 := ⟨Tryz.f137.name, by decide, Tryz.func137.trans (congrArg some (by kernel_rfl))⟩,
  f15 := ⟨Tryz.f138.name, by decide, Tryz.func138.trans (congrArg some (by kernel_rfl))⟩,
  f16 := ⟨Tryz.f139.name, by decide, Tryz.func139.trans (congrArg some (by kernel_rfl))⟩,
  f17 := ⟨Tryz.f140.name, by decide, Tryz.func140.trans (congrArg some (by kernel_rfl))⟩,
  f18 := ⟨Tryz.f141.name, by decide, Tryz.func141.trans (congrArg some (by kernel_rfl))⟩,
  f19 := Tryz.func117.trans (congrArg some (by kernel_rfl)),
  f20 := Tryz.func118.trans (congrArg some (by kernel_rfl)),
  f30 := ⟨Tryz.f143.name, by decide, Tryz.func143.trans (congrArg some (by kernel_rfl))⟩,
  f31 := Tryz.func144.trans (congrArg some (by kernel_rfl)),
  f32 := Tryz.func145.trans (congrArg some (by kernel_rfl)),
  f33 := ⟨Tryz.f146.name, by decide, Tryz.func146.trans (congrArg some (by kernel_rfl))⟩,
  f34 := ⟨Tryz.f147.name, by decide, Tryz.func147.trans (congrArg some (by kernel_rfl))⟩,
  f35 := ⟨Tryz.f148.name, by decide, Tryz.func148.trans (congrArg some (by kernel_rfl))⟩,
  f40 := ⟨Tryz.f149.name, by decide, Tryz.func149.trans (congrArg some (by kernel_rfl))⟩,
  t0 := Tryz.underlying0,
  a0 := Tryz.isAgg0,
  z0 := Tryz.sizeOf0,
  v0 := Tryz.zeroValue0,
  t3 := Tryz.underlying3,
  a3 := Tryz.isAgg3,
  z3 := Tryz.sizeOf3,
  v3 := Tryz.zeroValue3,
  t4 := Tryz.underlying4,
  a4 := Tryz.isAgg4,
  z4 := Tryz.sizeOf4,
  v4 := Tryz.zeroValue4,
  t5 := Tryz.underlying5,
  a5 := Tryz.isAgg5,
  z5 := Tryz.sizeOf5,
  v5 := Tryz.zeroValue5,
  t9 := Tryz.underlying9,
  a9 := Tryz.isAgg9,
  z9 := Tryz.sizeOf9,
  v9 := Tryz.zeroValue9,
  t22 := Tryz.underlying22,
  a22 := Tryz.isAgg22,
  z22 := Tryz.sizeOf22,
  v22 := Tryz.zeroValue22,
  t23 := Tryz.underlying22,
  a23 := Tryz.isAgg22,
  z23 := Tryz.sizeOf22,
  v23 := Tryz.zeroValue22,
  t25 := Tryz.underlying3,
  a25 := Tryz.isAgg3,
  z25 := Tryz.sizeOf3,
  v25 := Tryz.zeroValue3,
  t32 := Tryz.underlying107,
  a32 := Tryz.isAgg107,
  z32 := Tryz.sizeOf107,
  v32 := Tryz.zeroValue107,
  t35 := Tryz.underlying134,
  a35 := Tryz.isAgg134,
  z35 := Tryz.sizeOf134,
  v35 := Tryz.zeroValue134,
  t36 := Tryz.underlying135,
  a36 := Tryz.isAgg135,
  z36 := Tryz.sizeOf135,
  v36 := Tryz.zeroValue135,
  t41 := Tryz.underlying124,
  a41 := Tryz.isAgg124,
  z41 := Tryz.sizeOf124,
  v41 := Tryz.zeroValue124,
  t44 := Tryz.underlying115,
  a44 := Tryz.isAgg115,
  z44 := Tryz.sizeOf115,
  v44 := Tryz.zeroValue115,
  t46 := Tryz.underlying117,
  a46 := Tryz.isAgg117,
  z46 := Tryz.sizeOf117,
  v46 := Tryz.zeroValue117,
  t53 := Tryz.underlying143,
  a53 := Tryz.isAgg143,
  z53 := Tryz.sizeOf143,
  v53 := Tryz.zeroValue143,
  t57 := Tryz.underlying131,
  a57 := Tryz.isAgg131,
  z57 := Tryz.sizeOf131,
  v57 := Tryz.zeroValue131,
  t63 := Tryz.underlying146,
  a63 := Tryz.isAgg146,
  z63 := Tryz.sizeOf146,
  v63 := Tryz.zeroValue146,
  t64 := Tryz.underlying141,
  a64 := Tryz.isAgg141,
  z64 := Tryz.sizeOf141,
  v64 := Tryz.zeroValue141 }
theorem slices_Sort {M : Hp} {v0 : Value} {l0 : List Int} (b0 : l0.length ≤ 1000000000000) :
    Sp Tryz.prog (.func (.func 105) #[] #[]) M [v0] [OwnI 3 v0 l0] (fun r M' C' => C' = [OwnI 3 v0 (srtM l0)]) :=
  sort_sp Tryz.call105 (fun blk off cap zs w a b c => AnyM.slices_Sort_int Tryz.lsort blk off cap zs w a b c) (fun p cap w => AnyM.slices_Sort_int_none Tryz.lsort p cap w) b0

set_option maxRecDepth 100000 in
set_option maxHeartbeats 4000000 in
theorem sort_Ints {M : Hp} {v0 : Value} {l0 : List Int} (b0 : l0.length ≤ 1000000000000) :
    Sp Tryz.prog (.func (.func 92) #[] #[]) M [v0] [OwnI 3 v0 l0] (fun r M' C' => C' = [OwnI 3 v0 (srtM l0)]) := by
  refine Sp_enter Tryz.func92 rfl Tryz.ntmps92 rfl Tryz.call92 ?_
  intro a w M1 H hM1 S E
  replace S : St w M1 (OwnI 3 v0 l0 :: _) := S
  refine WP_region ?_
  refine S_v E rfl (R_move E rfl) rfl ?_
  clear E a; intro a E
  refine S_x (X_sp (p := [OwnI 3 v0 l0]) E S rfl rfl rfl (slices_Sort (by (first | omega | (simp; omega) | (simp; done) | (simp_all; omega) | grind))) (Hp.le.refl _) ?_)
  clear E a S; rintro a v_2 w M_1 _ hM_1 rfl S E
  replace S : St w M_1 (OwnI 3 v0 (srtM l0) :: _) := S
  refine WL_nil ?_
  refine F_nrm ?_
  exact F_ret0 E Tryz.results92 ⟨_, rfl, M_1, _, hM_1, rfl, S⟩

set_option maxRecDepth 100000 in
set_option maxHeartbeats 4000000 in
theorem impl_sorted {M : Hp} {v0 : Value} {l0 : List Int} (h0 : RdI M v0 l0) (hb : l0.length ≤ 1000000000000) :
    Pu Tryz.prog (.func (.func 65) #[] #[]) M [v0] (fun r M' => RdI M' r (srtM l0)) := by
  refine Pu_enter Tryz.func65 rfl Tryz.ntmps65 rfl Tryz.call65 ?_
  intro a w M1 H hM1 S E
  replace h0 := h0.le hM1
  have b0 := h0.bound
  refine WP_seq ?_
  refine WP_region ?_
  refine S_v E rfl (R_assign E rfl) rfl ?_
  clear E a; intro a E
  refine WL_nil ?_
  refine T_n ?_
  refine WP_seq ?_
  refine WP_region ?_
  refine S_v E rfl (R_move E rfl) rfl ?_
  clear E a; intro a E
  refine S_x (X_sp (p := []) E S rfl rfl rfl (impl_fresh h0 (by (first | omega | (simp; omega) | (simp; done) | (simp_all; omega) | grind))) (Hp.le.refl _) ?_)
  clear E a S; rintro a v_2 w M_1 _ hM_1 rfl S E
  replace S : St w M_1 (OwnI 3 v_2 l0 :: _) := S
  replace h0 := h0.le hM_1
  refine S_v E rfl (R_assign E rfl) rfl ?_
  clear E a; intro a E
  refine WL_nil ?_
  refine T_n ?_
  refine WP_seq ?_
  refine WP_region ?_
  refine S_v E rfl (R_move E rfl) rfl ?_
  clear E a; intro a E
  refine S_x (X_sp (p := [OwnI 3 v_2 l0]) E S rfl rfl rfl (sort_Ints (by (first | omega | (simp; omega) | (simp; done) | (simp_all; omega) | grind))) (Hp.le.refl _) ?_)
  clear E a S; rintro a v_4 w M_3 _ hM_3 rfl S E
  replace S : St w M_3 (OwnI 3 v_2 (srtM l0) :: _) := S
  replace h0 := h0.le hM_3
  refine WL_nil ?_
  refine T_n ?_
  refine WP_seq ?_
  refine WP_region ?_
  refine S_v E rfl (R_move E rfl) rfl ?_
  clear E a; intro a E
  refine S_v E rfl (R_assign E rfl) rfl ?_
  clear E a; intro a E
  refine WL_nil ?_
  refine T_n ?_
  refine WP_ret ?_
  have S0 := S; clear S
  obtain ⟨M_5, hM_5, hz_6, S⟩ := S0.freezeI (by (first | (rw [srtM_len]; simp; omega) | omega | (simp; omega)))
  clear S0
  replace h0 := h0.le hM_5
  exact F_ret1 E Tryz.results65 rfl ⟨_, rfl, M_5, (hM_1.trans (hM_3.trans hM_5)), hz_6, S⟩

set_option maxRecDepth 100000 in
set_option maxHeartbeats 4000000 in
theorem impl_Keys {M : Hp} {v0 : Value} {l0 : List (List (Int × Int))} (h0 : RdS 1 (RSl 2 RP2) M v0 l0) (hb : l0.flatten.length ≤ 1000000000000) (hbl : l0.length ≤ 1000000000000) :
    Pu Tryz.prog (.func (.func 29) #[] #[]) M [v0] (fun r M' => RdI M' r (srtM (keysM l0))) := by
  refine Pu_enter Tryz.func29 rfl Tryz.ntmps29 rfl Tryz.call29 ?_
  intro a w M1 H hM1 S E
  replace h0 := h0.le (RSl_mono RP2_mono) hM1
  have b0 := h0.bound
  refine WP_seq ?_
  refine WP_region ?_
  refine S_v E rfl (R_assign E rfl) rfl ?_
  clear E a; intro a E
  refine WL_nil ?_
  refine T_n ?_
  refine WP_seq ?_
  refine WP_region ?_
  refine S_v E rfl (R_assign E rfl) rfl ?_
  clear E a; intro a E
  refine WL_nil ?_
  refine T_n ?_
  refine WP_seq ?_
  refine WP_seq ?_
  refine WP_region ?_
  refine S_v E rfl (R_move E rfl) rfl ?_
  clear E a; intro a E
  refine S_v E rfl (R_lenV E rfl T41 h0.len) rfl ?_
  clear E a; intro a E
  refine S_v E rfl (R_move E rfl) rfl ?_
  clear E a; intro a E
  refine WL_nil ?_
  refine T_n ?_
  refine WP_block ?_
  replace S : St w M1 (OwnC 63 1 (.slice none 0 0) ([] : List (List (Int × Int))).length [] :: _) := S.ownNil
  have hr_2 : RowsR RMp 1 M1 ([] : List (List (Int × Int))) [] := RowsR.nil
  have hre : ([] : List (List (Int × Int))) = (l0.take 0).map mkE := by first | (simp; done) | (rw [tk_snoc (by assumption), List.map_append]; rfl)
  replace S := S.reR hre
  replace hr_2 := hr_2.eq hre
  clear hre
  refine WP_loop (γ := Nat) (fun (k : Nat) a w => ∃ (M_3 : Hp) (u3 : Value) (xs3 : List Value), Hp.le M1 M_3 ∧ St w M_3 (OwnC 63 1 u3 ((l0.take k).map mkE).length xs3 :: H) ∧ Env a 21 [] [(3, u3), (6, v0), (7, .int .i64 (((l0).length : Nat) : Int)), (8, .int .i64 ((k : Nat) : Int))] ∧ (k ≤ (l0).length) ∧ RowsR RMp 1 M_3 ((l0.take k).map mkE) xs3) (fun k => ((l0).length) - k) 0 ⟨M1, _, _, Hp.le.refl _, S, E.keep ⟨rfl, rfl, rfl, rfl, trivial⟩, by ((try clear S); (try clear E); first | assumption | omega | rfl | (simp; done) | (simp_all; done) | (simp [List.take_add_one, *]; done) | grind [List.take_add_one]), hr_2⟩ ?_
  try clear E
  try clear S
  try clear a
  try clear w
  rintro k a w ⟨M_3, u3, xs3, hM_3, S, E, hL0_0, hr3⟩
  replace h0 := h0.le (RSl_mono RP2_mono) hM_3
  refine WP_seq ?_
  refine WP_region ?_
  refine S_v E rfl (R_lss E rfl rfl) rfl ?_
  clear E a; intro a E
  refine WL_nil ?_
  refine T_n ?_
  refine WP_seq ?_
  refine WP_cond E rfl (fun hc_4 => ?_) (fun hc_4 => ?_)
  · replace hc_4 := of_decide_eq_true hc_4
    refine WP_skip ?_
    refine T_n ?_
    refine WP_seq ?_
    refine WP_block ?_
    refine WP_seq ?_
    refine WP_region ?_
    obtain ⟨x_5, hx_5⟩ : ∃ x, (l0)[k]? = some x := ⟨_, List.getElem?_eq_getElem (by first | omega | (simp; done) | (simp; omega) | (simp_all; omega))⟩
    obtain ⟨p_6, u_7, hp_6, qp_6, hu_7⟩ := RdPP.at h0 hx_5
    have bu_7 := hu_7.bound
    refine S_v E rfl (R_idx E rfl rfl T41 hp_6 rfl) rfl ?_
    clear E a; intro a E
    refine S_v E rfl (R_loadM E rfl Tryz.isAgg25 S.imm qp_6) rfl ?_
    clear E a; intro a E
    refine S_v E rfl (R_assign E rfl) rfl ?_
    clear E a; intro a E
    refine WL_nil ?_
    refine T_n ?_
    refine WP_region ?_
    refine S_v E rfl (R_move E rfl) rfl ?_
    clear E a; intro a E
    refine S_v E rfl (R_move E rfl) rfl ?_
    clear E a; intro a E
    refine S_x (X_pu E S rfl rfl rfl (impl_mapOf hu_7) (Hp.le.refl _) ?_)
    clear E a S; rintro a v_9 w M_8 hM_8 hv_9 S E
    replace h0 := h0.le (RSl_mono RP2_mono) hM_8
    replace hr3 := hr3.le RMp_mono hM_8
    replace hu_7 := hu_7.le RP2_mono hM_8
    refine S_x (X_buildM (R := RMp) (vs := [v_9]) (xs := [mkE x_5]) RMp_mono E S rfl T70 rfl rfl rfl (by intro u hu; simp only [List.mem_cons, List.not_mem_nil, or_false] at hu; rcases hu with rfl <;> first | exact RdM.one' hv_9) rfl (rowsC (R := RMp) ⟨_, rfl, hv_9⟩ rowsN) ?_)
    clear E a S; rintro a v_10 w M_11 hM_11 hv_10 S E
    replace h0 := h0.le (RSl_mono RP2_mono) hM_11
    replace hr3 := hr3.le RMp_mono hM_11
    replace hu_7 := hu_7.le RP2_mono hM_11
    replace hv_9 := hv_9.le hM_11
    refine S_x (X_appendR (R := RMp) (zs := (l0.take k).map mkE) (ys := [mkE x_5]) E S hr3 rfl rfl rfl T70 hv_10 one_RMp (by first | omega | (simp; done) | (simp; omega) | (simp_all; omega)) (by first | omega | (simp; done) | (simp; omega) | (simp_all; omega)) ?_)
    clear E a S; rintro a w v_12 xs_13 E hr_14 S
    refine S_v E rfl (R_assign E rfl) rfl ?_
    clear E a; intro a E
    refine WL_nil ?_
    refine B_n ?_
    refine T_n ?_
    refine WP_region ?_
    refine S_v E rfl (R_addx (m := ((k + 1 : Nat) : Int)) E rfl rfl (by omega) (by omega)) rfl ?_
    clear E a; intro a E
    refine S_v E rfl (R_move E rfl) rfl ?_
    clear E a; intro a E
    refine WL_nil ?_
    refine T_n ?_
    have hre : ((l0.take k).map mkE) ++ [mkE x_5] = (l0.take (k + 1)).map mkE := by first | (simp; done) | (rw [tk_snoc (by assumption), List.map_append]; rfl)
    replace S := S.reR hre
    replace hr_14 := hr_14.eq hre
    clear hre
    exact ⟨k + 1, ⟨M_11, _, _, (hM_3.trans (hM_8.trans hM_11)), S, E.keep ⟨rfl, rfl, rfl, rfl, trivial⟩, by ((try clear S); (try clear E); first | assumption | omega | rfl | (simp; done) | (simp_all; done) | (simp [List.take_add_one, *]; done) | grind [List.take_add_one]), hr_14⟩, by omega⟩
  · replace hc_4 := of_decide_eq_false hc_4
    refine WP_exit ?_
    refine T_x ?_
    refine T_x ?_
    refine B_x ?_
    refine T_n ?_
    refine WP_seq ?_
    refine WP_region ?_
    refine S_v E rfl (R_move E rfl) rfl ?_
    clear E a; intro a E
    have S0 := S; clear S
    obtain ⟨M_15, hM_15, hz_16, S⟩ := S0.freezeR hr3 RMp_mono (by (first | omega | (simp; omega)))
    clear S0
    replace h0 := h0.le (RSl_mono RP2_mono) hM_15
    refine S_x (X_pu E S rfl rfl rfl (lo_Keys hz_16 (by first | omega | exact Nat.le_trans (fl_mk _ _) (by first | omega | (simp; done)) | (simp; omega))) (Hp.le.refl _) ?_)
    clear E a S; rintro a v_18 w M_17 hM_17 ⟨q_19, hv_18, hpq_19⟩ S E
    replace h0 := h0.le (RSl_mono RP2_mono) hM_17
    replace hz_16 := hz_16.le RMp_mono hM_17
    refine S_x (X_pu E S rfl rfl rfl (impl_sorted hv_18 (by first | omega | (simp; done) | (simp; omega) | exact Nat.le_trans (Nat.le_of_eq (List.Perm.length_eq (by assumption))) (by first | exact Nat.le_trans (flt_len _ _ _) (by omega) | (rw [List.length_map]; exact Nat.le_trans (fl_mk _ _) (by omega))) | exact Nat.le_trans (uq_len (by assumption) (by assumption)) (by rw [List.length_map]; exact Nat.le_trans (fl_mk _ _) (by omega)))) (Hp.le.refl _) ?_)
    clear E a S; rintro a v_21 w M_20 hM_20 hv_21 S E
    replace h0 := h0.le (RSl_mono RP2_mono) hM_20
    replace hz_16 := hz_16.le RMp_mono hM_20
    replace hv_18 := hv_18.le hM_20
    refine S_v E rfl (R_assign E rfl) rfl ?_
    clear E a; intro a E
    refine WL_nil ?_
    refine T_n ?_
    refine WP_ret ?_
    exact F_ret1 E Tryz.results29 rfl ⟨_, rfl, M_20, (hM_3.trans (hM_15.trans (hM_17.trans hM_20))), (by rw [show (srtM (keysM l0)) = (srtM q_19) from by (exact ky_res (k := k) (by omega) (by assumption))]; exact hv_21), S⟩

set_option maxRecDepth 100000 in
set_option maxHeartbeats 4000000 in
theorem laws_brief {M : Hp} {v0 : Value} {l0 : List (List (Int × Int))} (h0 : RdS 1 (RSl 2 RP2) M v0 l0) :
    Pu Tryz.prog (.func (.func 30) #[] #[]) M [v0] (fun r M' => r = .bool (decide ((∀ x ∈ l0, x.length ≤ 200) ∧ (l0).length ≤ 20))) := by
  refine Pu_enter Tryz.func30 rfl Tryz.ntmps30 rfl Tryz.call30 ?_
  intro a w M1 H hM1 S E
  replace h0 := h0.le (RSl_mono RP2_mono) hM1
  have b0 := h0.bound
  refine WP_seq ?_
  refine WP_region ?_
  refine S_v E rfl (R_assign E rfl) rfl ?_
  clear E a; intro a E
  refine WL_nil ?_
  refine T_n ?_
  refine WP_seq ?_
  refine WP_seq ?_
  refine WP_region ?_
  refine S_v E rfl (R_move E rfl) rfl ?_
  clear E a; intro a E
  refine S_v E rfl (R_lenV E rfl T41 h0.len) rfl ?_
  clear E a; intro a E
  refine S_v E rfl (R_move E rfl) rfl ?_
  clear E a; intro a E
  refine WL_nil ?_
  refine T_n ?_
  refine WP_block ?_
  refine WP_loop (γ := Nat) (fun (k : Nat) a w => ∃ (M_1 : Hp), Hp.le M1 M_1 ∧ St w M_1 (H) ∧ Env a 18 [] [(0, v0), (5, v0), (6, .int .i64 (((l0).length : Nat) : Int)), (7, .int .i64 ((k : Nat) : Int))] ∧ (k ≤ (l0).length) ∧ (∀ x ∈ l0.take k, x.length ≤ 200)) (fun k => ((l0).length) - k) 0 ⟨M1, Hp.le.refl _, S, E.keep ⟨rfl, rfl, rfl, rfl, trivial⟩, by ((try clear S); (try clear E); first | assumption | omega | rfl | (simp; done) | (simp_all; done) | (simp [List.take_add_one, *]; done) | grind [List.take_add_one]), (by simp)⟩ ?_
  try clear E
  try clear S
  try clear a
  try clear w
  rintro k a w ⟨M_1, hM_1, S, E, hL0_0, hL0_1⟩
  replace h0 := h0.le (RSl_mono RP2_mono) hM_1
  refine WP_seq ?_
  refine WP_region ?_
  refine S_v E rfl (R_lss E rfl rfl) rfl ?_
  clear E a; intro a E
  refine WL_nil ?_
  refine T_n ?_
  refine WP_seq ?_
  refine WP_cond E rfl (fun hc_2 => ?_) (fun hc_2 => ?_)
  · replace hc_2 := of_decide_eq_true hc_2
    refine WP_skip ?_
    refine T_n ?_
    refine WP_seq ?_
    refine WP_block ?_
    refine WP_seq ?_
    refine WP_region ?_
    obtain ⟨x_3, hx_3⟩ : ∃ x, (l0)[k]? = some x := ⟨_, List.getElem?_eq_getElem (by first | omega | (simp; done) | (simp; omega) | (simp_all; omega))⟩
    obtain ⟨p_4, u_5, hp_4, qp_4, hu_5⟩ := RdPP.at h0 hx_3
    have bu_5 := hu_5.bound
    refine S_v E rfl (R_idx E rfl rfl T41 hp_4 rfl) rfl ?_
    clear E a; intro a E
    refine S_v E rfl (R_loadM E rfl Tryz.isAgg25 S.imm qp_4) rfl ?_
    clear E a; intro a E
    refine S_v E rfl (R_assign E rfl) rfl ?_
    clear E a; intro a E
    refine WL_nil ?_
    refine T_n ?_
    refine WP_seq ?_
    refine WP_region ?_
    refine S_v E rfl (R_move E rfl) rfl ?_
    clear E a; intro a E
    refine S_v E rfl (R_lenV E rfl T25 hu_5.len) rfl ?_
    clear E a; intro a E
    refine S_v E rfl (R_gtr E rfl rfl) rfl ?_
    clear E a; intro a E
    refine WL_nil ?_
    refine T_n ?_
    refine WP_cond E rfl (fun hc_6 => ?_) (fun hc_6 => ?_)
    · replace hc_6 := of_decide_eq_true hc_6
      refine WP_seq ?_
      refine WP_region ?_
      refine S_v E rfl (R_assign E rfl) rfl ?_
      clear E a; intro a E
      refine WL_nil ?_
      refine T_n ?_
      refine WP_ret ?_
      refine B_r ?_
      refine T_r ?_
      refine T_r ?_
      refine B_r ?_
      refine T_r ?_
      exact F_ret1 E Tryz.results30 rfl ⟨_, rfl, M_1, hM_1, (bF (by (intro h9; have h8 := h9.1 _ (List.mem_of_getElem? (by assumption)); omega))), S⟩
    · replace hc_6 := of_decide_eq_false hc_6
      refine WP_skip ?_
      refine B_n ?_
      refine T_n ?_
      refine WP_region ?_
      refine S_v E rfl (R_addx (m := ((k + 1 : Nat) : Int)) E rfl rfl (by omega) (by omega)) rfl ?_
      clear E a; intro a E
      refine S_v E rfl (R_move E rfl) rfl ?_
      clear E a; intro a E
      refine WL_nil ?_
      refine T_n ?_
      exact ⟨k + 1, ⟨M_1, hM_1, S, E.keep ⟨rfl, rfl, rfl, rfl, trivial⟩, by ((try clear S); (try clear E); first | assumption | omega | rfl | (simp; done) | (simp_all; done) | (simp [List.take_add_one, *]; done) | grind [List.take_add_one]), (by exact brf_step (by assumption) (by omega) (by assumption))⟩, by omega⟩
  · replace hc_2 := of_decide_eq_false hc_2
    refine WP_exit ?_
    refine T_x ?_
    refine T_x ?_
    refine B_x ?_
    refine T_n ?_
    refine WP_seq ?_
    refine WP_region ?_
    refine S_v E rfl (R_move E rfl) rfl ?_
    clear E a; intro a E
    refine S_v E rfl (R_lenV E rfl T41 h0.len) rfl ?_
    clear E a; intro a E
    refine S_v E rfl (R_leq E rfl rfl) rfl ?_
    clear E a; intro a E
    refine S_v E rfl (R_assign E rfl) rfl ?_
    clear E a; intro a E
    refine WL_nil ?_
    refine T_n ?_
    refine WP_ret ?_
    exact F_ret1 E Tryz.results30 rfl ⟨_, rfl, M_1, hM_1, (congrArg Value.bool (by (rw [List.take_of_length_le (by omega)] at hL0_1; rw [decide_eq_decide]; constructor <;> intro h9 <;> first | exact ⟨hL0_1, by omega⟩ | omega))), S⟩

set_option maxRecDepth 100000 in
set_option maxHeartbeats 4000000 in
theorem laws_fair {M : Hp} {pk0 pn0 : Int} {w0 : Value} {pl0 : List Int} (hw0 : RdI M w0 pl0) (gn0 : -9223372036854775808 ≤ pn0 ∧ pn0 ≤ 9223372036854775807) :
    Pu Tryz.prog (.func (.func 31) #[] #[]) M [.agg #[.int .i64 pk0, .int .i64 pn0, w0]] (fun r M' => r = .bool (decide ((-1099511627776 < pn0 ∧ pn0 < 1099511627776) ∧ (pl0).length ≤ 300))) := by
  refine Pu_enter Tryz.func31 rfl Tryz.ntmps31 rfl Tryz.call31 ?_
  intro a w M1 H hM1 S E
  replace hw0 := hw0.le hM1
  have bw0 := hw0.bound
  refine WP_seq ?_
  refine WP_region ?_
  refine S_x (X_box (cs := #[.int .i64 pk0, .int .i64 pn0, w0]) E S rfl rfl rfl ?_)
  clear E a S; rintro a w b_1 E S
  obtain ⟨M_2, hM_2, hb_1, S⟩ := S.freezeB
  replace hw0 := hw0.le hM_2
  refine S_v E rfl (R_assign E rfl) rfl ?_
  clear E a; intro a E
  refine WL_nil ?_
  refine T_n ?_
  refine WP_seq ?_
  refine WP_region ?_
  refine S_v E rfl (R_fieldAddr E rfl (FA38_1 _)) rfl ?_
  clear E a; intro a E
  refine S_v E rfl (R_loadM E rfl Tryz.isAgg3 S.imm (cellM_boxo hb_1 rfl)) rfl ?_
  clear E a; intro a E
  refine S_v E rfl (R_gtr E rfl rfl) rfl ?_
  clear E a; intro a E
  refine S_v E rfl (R_move E rfl) rfl ?_
  clear E a; intro a E
  refine split_bool (decide ((-1099511627776) < pn0)) (fun hc_3 => ?_) (fun hc_3 => ?_)
  · replace E := E.val (t := 5) rfl hc_3
    replace E := E.val (t := 6) rfl hc_3
    replace hc_3 := of_decide_eq_true hc_3
    refine WL_guard_yes E rfl rfl ?_
    refine S_v E rfl (R_fieldAddr E rfl (FA38_1 _)) rfl ?_
    clear E a; intro a E
    refine WL_guard_yes E rfl rfl ?_
    refine S_v E rfl (R_loadM E rfl Tryz.isAgg3 S.imm (cellM_boxo hb_1 rfl)) rfl ?_
    clear E a; intro a E
    refine WL_guard_yes E rfl rfl ?_
    refine S_v E rfl (R_lss E rfl rfl) rfl ?_
    clear E a; intro a E
    refine S_v E rfl (R_pickT E rfl rfl) rfl ?_
    clear E a; intro a E
    refine S_v E rfl (R_move E rfl) rfl ?_
    clear E a; intro a E
    refine split_bool (decide (pn0 < 1099511627776)) (fun hc_4 => ?_) (fun hc_4 => ?_)
    · replace E := E.val (t := 9) rfl hc_4
      replace E := E.val (t := 10) rfl hc_4
      replace E := E.val (t := 11) rfl hc_4
      replace hc_4 := of_decide_eq_true hc_4
      refine WL_guard_yes E rfl rfl ?_
      refine S_v E rfl (R_fieldAddr E rfl (FA38_2 _)) rfl ?_
      clear E a; intro a E
      refine WL_guard_yes E rfl rfl ?_
      refine S_v E rfl (R_loadM E rfl Tryz.isAgg22 S.imm (cellM_boxo hb_1 rfl)) rfl ?_
      clear E a; intro a E
      refine WL_guard_yes E rfl rfl ?_
      refine S_v E rfl (R_lenV E rfl T22 hw0.len) rfl ?_
      clear E a; intro a E
      refine WL_guard_yes E rfl rfl ?_
      refine S_v E rfl (R_leq E rfl rfl) rfl ?_
      clear E a; intro a E
      refine S_v E rfl (R_pickT E rfl rfl) rfl ?_
      clear E a; intro a E
      refine S_v E rfl (R_assign E rfl) rfl ?_
      clear E a; intro a E
      refine WL_nil ?_
      refine T_n ?_
      refine WP_ret ?_
      exact F_ret1 E Tryz.results31 rfl ⟨_, rfl, M_2, hM_2, (congrArg Value.bool (by ((try clear S); (try clear E); first | assumption | omega | rfl | (simp; done) | (simp_all; done) | (simp [List.take_add_one, *]; done) | grind [List.take_add_one]))), S⟩
    · replace E := E.val (t := 9) rfl hc_4
      replace E := E.val (t := 10) rfl hc_4
      replace E := E.val (t := 11) rfl hc_4
      replace hc_4 := of_decide_eq_false hc_4
      refine WL_guard_no E rfl rfl rfl rfl fun a E => ?_
      refine WL_guard_no E rfl rfl rfl rfl fun a E => ?_
      refine WL_guard_no E rfl rfl rfl rfl fun a E => ?_
      refine WL_guard_no E rfl rfl rfl rfl fun a E => ?_
      refine S_v E rfl (R_pickF E rfl rfl) rfl ?_
      clear E a; intro a E
      refine S_v E rfl (R_assign E rfl) rfl ?_
      clear E a; intro a E
      refine WL_nil ?_
      refine T_n ?_
      refine WP_ret ?_
      exact F_ret1 E Tryz.results31 rfl ⟨_, rfl, M_2, hM_2, (bF (by ((try clear S); (try clear E); first | assumption | omega | rfl | (simp; done) | (simp_all; done) | (simp [List.take_add_one, *]; done) | grind [List.take_add_one]))), S⟩
  · replace E := E.val (t := 5) rfl hc_3
    replace E := E.val (t := 6) rfl hc_3
    replace hc_3 := of_decide_eq_false hc_3
    refine WL_guard_no E rfl rfl rfl rfl fun a E => ?_
    refine WL_guard_no E rfl rfl rfl rfl fun a E => ?_
    refine WL_guard_no E rfl rfl rfl rfl fun a E => ?_
    refine S_v E rfl (R_pickF E rfl rfl) rfl ?_
    clear E a; intro a E
    refine S_v E rfl (R_move E rfl) rfl ?_
    clear E a; intro a E
    refine WL_guard_no E rfl rfl rfl rfl fun a E => ?_
    refine WL_guard_no E rfl rfl rfl rfl fun a E => ?_
    refine WL_guard_no E rfl rfl rfl rfl fun a E => ?_
    refine WL_guard_no E rfl rfl rfl rfl fun a E => ?_
    refine S_v E rfl (R_pickF E rfl rfl) rfl ?_
    clear E a; intro a E
    refine S_v E rfl (R_assign E rfl) rfl ?_
    clear E a; intro a E
    refine WL_nil ?_
    refine T_n ?_
    refine WP_ret ?_
    exact F_ret1 E Tryz.results31 rfl ⟨_, rfl, M_2, hM_2, (bF (by ((try clear S); (try clear E); first | assumption | omega | rfl | (simp; done) | (simp_all; done) | (simp [List.take_add_one, *]; done) | grind [List.take_add_one]))), S⟩

set_option maxRecDepth 100000 in
set_option maxHeartbeats 4000000 in
theorem laws_pairs {M : Hp} {v0 : Value} {l0 : List (Int × Int)} (h0 : RdS 2 RP2 M v0 l0) (hb : l0.length ≤ 1000000000000) :
    Pu Tryz.prog (.func (.func 32) #[] #[]) M [v0] (fun r M' => RdS 2 RP2 M' r l0) := by
  refine Pu_enter Tryz.func32 rfl Tryz.ntmps32 rfl Tryz.call32 ?_
  intro a w M1 H hM1 S E
  replace h0 := h0.le RP2_mono hM1
  have b0 := h0.bound
  refine WP_seq ?_
  refine WP_region ?_
  refine S_v E rfl (R_assign E rfl) rfl ?_
  clear E a; intro a E
  refine WL_nil ?_
  refine T_n ?_
  refine WP_seq ?_
  refine WP_region ?_
  refine S_v E rfl (R_assign E rfl) rfl ?_
  clear E a; intro a E
  refine WL_nil ?_
  refine T_n ?_
  refine WP_seq ?_
  refine WP_seq ?_
  refine WP_region ?_
  refine S_v E rfl (R_move E rfl) rfl ?_
  clear E a; intro a E
  refine S_v E rfl (R_lenV E rfl T25 h0.len) rfl ?_
  clear E a; intro a E
  refine S_v E rfl (R_move E rfl) rfl ?_
  clear E a; intro a E
  refine WL_nil ?_
  refine T_n ?_
  refine WP_block ?_
  replace S : St w M1 (OwnC 55 2 (.slice none 0 0) ([] : List (Int × Int)).length [] :: _) := S.ownNil
  have hr_2 : RowsR RP2 2 M1 ([] : List (Int × Int)) [] := RowsR.nil
  have hre : ([] : List (Int × Int)) = l0.take 0 := by first | rfl | (simp; done) | exact (tk_snoc (by assumption)).symm
  replace S := S.reR hre
  replace hr_2 := hr_2.eq hre
  clear hre
  refine WP_loop (γ := Nat) (fun (k : Nat) a w => ∃ (M_3 : Hp) (u3 : Value) (xs3 : List Value), Hp.le M1 M_3 ∧ St w M_3 (OwnC 55 2 u3 (l0.take k).length xs3 :: H) ∧ Env a 18 [] [(3, u3), (6, v0), (7, .int .i64 (((l0).length : Nat) : Int)), (8, .int .i64 ((k : Nat) : Int))] ∧ (k ≤ (l0).length) ∧ RowsR RP2 2 M_3 (l0.take k) xs3) (fun k => ((l0).length) - k) 0 ⟨M1, _, _, Hp.le.refl _, S, E.keep ⟨rfl, rfl, rfl, rfl, trivial⟩, by ((try clear S); (try clear E); first | assumption | omega | rfl | (simp; done) | (simp_all; done) | (simp [List.take_add_one, *]; done) | grind [List.take_add_one]), hr_2⟩ ?_
  try clear E
  try clear S
  try clear a
  try clear w
  rintro k a w ⟨M_3, u3, xs3, hM_3, S, E, hL0_0, hr3⟩
  replace h0 := h0.le RP2_mono hM_3
  refine WP_seq ?_
  refine WP_region ?_
  refine S_v E rfl (R_lss E rfl rfl) rfl ?_
  clear E a; intro a E
  refine WL_nil ?_
  refine T_n ?_
  refine WP_seq ?_
  refine WP_cond E rfl (fun hc_4 => ?_) (fun hc_4 => ?_)
  · replace hc_4 := of_decide_eq_true hc_4
    refine WP_skip ?_
    refine T_n ?_
    refine WP_seq ?_
    refine WP_block ?_
    refine WP_seq ?_
    refine WP_region ?_
    obtain ⟨x_5, hx_5⟩ : ∃ x, (l0)[k]? = some x := ⟨_, List.getElem?_eq_getElem (by first | omega | (simp; done) | (simp; omega) | (simp_all; omega))⟩
    obtain ⟨p_6, hp_6, qp_6⟩ := RdP2.at h0 hx_5
    refine S_v E rfl (R_idx E rfl rfl T25 hp_6 rfl) rfl ?_
    clear E a; intro a E
    refine S_v E rfl (R_loadA (cs := [.int .i64 x_5.1, .int .i64 x_5.2]) E rfl (Tryz.isAgg29 _) (Tryz.sizeOf29 _) S.imm qp_6) rfl ?_
    clear E a; intro a E
    refine S_x (X_alloc (cs := #[.int .i64 0, .int .i64 0]) E S rfl Tryz.zeroValue29 rfl ?_)
    clear E a S; rintro a w b_7 E S
    refine S_x0 (X_storeG (us := [.int .i64 x_5.1, .int .i64 x_5.2]) E S rfl rfl (Tryz.sizeOf29 _) rfl (by intro u hu; simp only [List.mem_cons, List.not_mem_nil, or_false] at hu; rcases hu with rfl | rfl <;> first | exact rfl | exact rfl) ?_)
    clear E a S; rintro a w E S
    replace S : St w M_3 (blk b_7 (.cells #[.int .i64 x_5.1, .int .i64 x_5.2] 29) :: _) := S
    have S0 := S; clear S
    obtain ⟨M_8, hM_8, hb_9, S⟩ := S0.freezeB
    clear S0
    replace h0 := h0.le RP2_mono hM_8
    replace hr3 := hr3.le RP2_mono hM_8
    refine WL_nil ?_
    refine T_n ?_
    refine WP_region ?_
    refine S_v E rfl (R_move E rfl) rfl ?_
    clear E a; intro a E
    refine S_v E rfl (R_loadGM E rfl (Tryz.isAgg29 _) (Tryz.sizeOf29 _) S.imm hb_9) rfl ?_
    clear E a; intro a E
    refine S_x (X_buildA1 (R := RP2) (cs := [.int .i64 x_5.1, .int .i64 x_5.2]) (x0 := x_5) RP2_mono E S rfl T32 rfl rfl rfl rfl ?_)
    clear E a S; rintro a v_10 w M_11 hM_11 hv_10 S E
    replace h0 := h0.le RP2_mono hM_11
    replace hr3 := hr3.le RP2_mono hM_11
    replace hb_9 := hM_11.2 _ _ hb_9
    refine S_x (X_appendR (R := RP2) (zs := l0.take k) (ys := [x_5]) E S hr3 rfl rfl rfl T32 hv_10 one_RP2 (by first | omega | (simp; done) | (simp; omega) | (simp_all; omega)) (by first | omega | (simp; done) | (simp; omega) | (simp_all; omega)) ?_)
    clear E a S; rintro a w v_12 xs_13 E hr_14 S
    refine S_v E rfl (R_assign E rfl) rfl ?_
    clear E a; intro a E
    refine WL_nil ?_
    refine B_n ?_
    refine T_n ?_
    refine WP_region ?_
    refine S_v E rfl (R_addx (m := ((k + 1 : Nat) : Int)) E rfl rfl (by omega) (by omega)) rfl ?_
    clear E a; intro a E
    refine S_v E rfl (R_move E rfl) rfl ?_
    clear E a; intro a E
    refine WL_nil ?_
    refine T_n ?_
    have hre : (l0.take k) ++ [x_5] = l0.take (k + 1) := by first | rfl | (simp; done) | exact (tk_snoc (by assumption)).symm
    replace S := S.reR hre
    replace hr_14 := hr_14.eq hre
    clear hre
    exact ⟨k + 1, ⟨M_11, _, _, (hM_3.trans (hM_8.trans hM_11)), S, E.keep ⟨rfl, rfl, rfl, rfl, trivial⟩, by ((try clear S); (try clear E); first | assumption | omega | rfl | (simp; done) | (simp_all; done) | (simp [List.take_add_one, *]; done) | grind [List.take_add_one]), hr_14⟩, by omega⟩
  · replace hc_4 := of_decide_eq_false hc_4
    refine WP_exit ?_
    refine T_x ?_
    refine T_x ?_
    refine B_x ?_
    refine T_n ?_
    refine WP_seq ?_
    refine WP_region ?_
    refine S_v E rfl (R_move E rfl) rfl ?_
    clear E a; intro a E
    refine S_v E rfl (R_assign E rfl) rfl ?_
    clear E a; intro a E
    refine WL_nil ?_
    refine T_n ?_
    refine WP_ret ?_
    have S0 := S; clear S
    obtain ⟨M_15, hM_15, hz_16, S⟩ := S0.freezeR hr3 RP2_mono (by (first | omega | (simp; omega)))
    clear S0
    replace h0 := h0.le RP2_mono hM_15
    exact F_ret1 E Tryz.results32 rfl ⟨_, rfl, M_15, (hM_3.trans hM_15), (by rw [show l0 = (l0.take k) from by (rw [List.take_of_length_le (by omega)])]; exact hz_16), S⟩

set_option maxRecDepth 100000 in
set_option maxHeartbeats 4000000 in
theorem lo_Values {M : Hp} {v0 : Value} {l0 : List (List (Int × Int))} (h0 : RdS 1 RMp M v0 l0) (hb : l0.flatten.length ≤ 1000000000000) :
    Pu Tryz.prog (.func (.func 67) #[] #[]) M [v0] (fun r M' => ∃ p_, RdI M' r p_ ∧ p_.Perm (((l0).flatten).map Prod.snd)) := by
  refine Pu_enter Tryz.func67 rfl Tryz.ntmps67 rfl Tryz.call67 ?_
  intro a w M1 H hM1 S E
  replace h0 := h0.le RMp_mono hM1
  have b0 := h0.bound
  refine WP_seq ?_
  refine WP_region ?_
  refine S_v E rfl (R_assign E rfl) rfl ?_
  clear E a; intro a E
  refine WL_nil ?_
  refine T_n ?_
  refine WP_seq ?_
  refine WP_region ?_
  refine S_v E rfl (R_assign E rfl) rfl ?_
  clear E a; intro a E
  refine WL_nil ?_
  refine T_n ?_
  refine WP_seq ?_
  refine WP_seq ?_
  refine WP_region ?_
  refine S_v E rfl (R_move E rfl) rfl ?_
  clear E a; intro a E
  refine S_v E rfl (R_lenV E rfl T70 h0.len) rfl ?_
  clear E a; intro a E
  refine S_v E rfl (R_move E rfl) rfl ?_
  clear E a; intro a E
  refine WL_nil ?_
  refine T_n ?_
  refine WP_block ?_
  refine WP_loop (γ := Nat) (fun (k : Nat) a w => ∃ (M_1 : Hp), Hp.le M1 M_1 ∧ St w M_1 (H) ∧ Env a 44 [] [(0, v0), (3, .int .i64 ((((l0.take k).flatten).length : Nat) : Int)), (10, .int .i64 (((l0).length : Nat) : Int)), (11, .int .i64 ((k : Nat) : Int))] ∧ (k ≤ (l0).length)) (fun k => ((l0).length) - k) 0 ⟨M1, Hp.le.refl _, S, E.keep ⟨rfl, look_nat (i := 0) rfl (by (simp)), rfl, rfl, trivial⟩, by ((try clear S); (try clear E); first | assumption | omega | rfl | (simp; done) | (simp_all; done) | (simp [List.take_add_one, *]; done) | grind [List.take_add_one])⟩ ?_
  try clear E
  try clear S
  try clear a
  try clear w
  rintro k a w ⟨M_1, hM_1, S, E, hL0_0⟩
  replace h0 := h0.le RMp_mono hM_1
  have hfl := fl_le l0 k
  refine WP_seq ?_
  refine WP_region ?_
  refine S_v E rfl (R_lss E rfl rfl) rfl ?_
  clear E a; intro a E
  refine WL_nil ?_
  refine T_n ?_
  refine WP_seq ?_
  refine WP_cond E rfl (fun hc_2 => ?_) (fun hc_2 => ?_)
  · replace hc_2 := of_decide_eq_true hc_2
    refine WP_skip ?_
    refine T_n ?_
    refine WP_seq ?_
    refine WP_block ?_
    refine WP_seq ?_
    refine WP_region ?_
    refine S_v E rfl (R_move E rfl) rfl ?_
    clear E a; intro a E
    refine S_v E rfl (R_assign E rfl) rfl ?_
    clear E a; intro a E
    refine WL_nil ?_
    refine T_n ?_
    refine WP_region ?_
    refine S_v E rfl (R_move E rfl) rfl ?_
    clear E a; intro a E
    refine S_v E rfl (R_move E rfl) rfl ?_
    clear E a; intro a E
    refine S_v E rfl (R_move E rfl) rfl ?_
    clear E a; intro a E
    obtain ⟨x_3, hx_3⟩ : ∃ x, (l0)[k]? = some x := ⟨_, List.getElem?_eq_getElem (by first | omega | (simp; done) | (simp; omega) | (simp_all; omega))⟩
    obtain ⟨p_4, u_5, hp_4, qp_4, hu_5⟩ := RdMp.at h0 hx_3
    refine S_v E rfl (R_idx E rfl rfl T70 hp_4 rfl) rfl ?_
    clear E a; intro a E
    refine S_v E rfl (R_loadM E rfl Tryz.isAgg63 S.imm qp_4) rfl ?_
    clear E a; intro a E
    refine S_v E rfl ((R_lenF S.imm hu_5 E MT63 rfl).trans (by rw [encE_len])) rfl ?_
    clear E a; intro a E
    refine S_v E rfl (R_addx (m := ((((l0.take k).flatten).length + (x_3).length : Nat) : Int)) E rfl rfl (by (have h9 := fl_lt (by assumption); omega)) (by (have h9 := fl_lt (by assumption); omega))) rfl ?_
    clear E a; intro a E
    refine S_v E rfl (R_assign E rfl) rfl ?_
    clear E a; intro a E
    refine WL_nil ?_
    refine B_n ?_
    refine T_n ?_
    refine WP_region ?_
    refine S_v E rfl (R_addx (m := ((k + 1 : Nat) : Int)) E rfl rfl (by (have h9 := fl_lt (by assumption); omega)) (by (have h9 := fl_lt (by assumption); omega))) rfl ?_
    clear E a; intro a E
    refine S_v E rfl (R_move E rfl) rfl ?_
    clear E a; intro a E
    refine WL_nil ?_
    refine T_n ?_
    exact ⟨k + 1, ⟨M_1, hM_1, S, E.keep ⟨rfl, look_nat (i := ((l0.take k).flatten).length + (x_3).length) rfl (by (rw [fl_succ (by assumption), List.length_append])), rfl, rfl, trivial⟩, by ((try clear S); (try clear E); first | assumption | omega | rfl | (simp; done) | (simp_all; done) | (simp [List.take_add_one, *]; done) | grind [List.take_add_one])⟩, by omega⟩
  · replace hc_2 := of_decide_eq_false hc_2
    refine WP_exit ?_
    refine T_x ?_
    refine T_x ?_
    refine B_x ?_
    refine T_n ?_
    refine WP_seq ?_
    refine WP_region ?_
    refine S_v E rfl (R_move E rfl) rfl ?_
    clear E a; intro a E
    refine S_x (X_make0 (k := ((l0.take k).flatten).length) E S rfl rfl rfl T22 rfl (by omega) (by (have h9 := fl_le l0 k; omega)) (by (have h9 := fl_le l0 k; omega)) ?_)
    clear E a S; rintro a w v_6 E S
    replace S := S.made0
    refine S_v E rfl (R_assign E rfl) rfl ?_
    clear E a; intro a E
    refine WL_nil ?_
    refine T_n ?_
    refine WP_seq ?_
    refine WP_seq ?_
    refine WP_region ?_
    refine S_v E rfl (R_move E rfl) rfl ?_
    clear E a; intro a E
    refine S_v E rfl (R_lenV E rfl T70 h0.len) rfl ?_
    clear E a; intro a E
    refine S_v E rfl (R_move E rfl) rfl ?_
    clear E a; intro a E
    refine WL_nil ?_
    refine T_n ?_
    refine WP_block ?_
    refine WP_loop (γ := Nat) (fun (k : Nat) a w => ∃ (M_7 : Hp) (q5 : ILst) (u5 : Value), Hp.le M_1 M_7 ∧ St w M_7 (OwnI 3 u5 q5 :: H) ∧ Env a 44 [] [(0, v0), (5, u5), (25, .int .i64 (((l0).length : Nat) : Int)), (26, .int .i64 ((k : Nat) : Int))] ∧ (k ≤ (l0).length) ∧ (q5.Perm (((l0.take k).flatten).map Prod.snd))) (fun k => ((l0).length) - k) 0 ⟨M_1, _, _, Hp.le.refl _, S, E.keep ⟨rfl, rfl, rfl, rfl, trivial⟩, by ((try clear S); (try clear E); first | assumption | omega | rfl | (simp; done) | (simp_all; done) | (simp [List.take_add_one, *]; done) | grind [List.take_add_one]), (by simp)⟩ ?_
    try clear E
    try clear S
    try clear a
    try clear w
    rintro k a w ⟨M_7, q5, u5, hM_7, S, E, hL1_0, hL1_1⟩
    replace h0 := h0.le RMp_mono hM_7
    refine WP_seq ?_
    refine WP_region ?_
    refine S_v E rfl (R_lss E rfl rfl) rfl ?_
    clear E a; intro a E
    refine WL_nil ?_
    refine T_n ?_
    refine WP_seq ?_
    refine WP_cond E rfl (fun hc_8 => ?_) (fun hc_8 => ?_)
    · replace hc_8 := of_decide_eq_true hc_8
      refine WP_skip ?_
      refine T_n ?_
      refine WP_seq ?_
      refine WP_block ?_
      refine WP_seq ?_
      refine WP_region ?_
      refine S_v E rfl (R_move E rfl) rfl ?_
      clear E a; intro a E
      refine S_v E rfl (R_assign E rfl) rfl ?_
      clear E a; intro a E
      refine WL_nil ?_
      refine T_n ?_
      refine WP_seq ?_
      refine WP_region ?_
      refine S_v E rfl (R_move E rfl) rfl ?_
      clear E a; intro a E
      refine S_v E rfl (R_move E rfl) rfl ?_
      clear E a; intro a E
      obtain ⟨x_9, hx_9⟩ : ∃ x, (l0)[k]? = some x := ⟨_, List.getElem?_eq_getElem (by first | omega | (simp; done) | (simp; omega) | (simp_all; omega))⟩
      obtain ⟨p_10, u_11, hp_10, qp_10, hu_11⟩ := RdMp.at h0 hx_9
      refine S_v E rfl (R_idx E rfl rfl T70 hp_10 rfl) rfl ?_
      clear E a; intro a E
      refine S_v E rfl (R_loadM E rfl Tryz.isAgg63 S.imm qp_10) rfl ?_
      clear E a; intro a E
      refine S_x (X_range E S rfl MT63 hu_11 rfl ?_)
      clear E a S; rintro a w i_12 es_13 ck_14 E hf_15 S
      replace S : St w M_7 (ItO u_11 es_13 ck_14 i_12 (encE (Value.int .i64) ([] : List (Int × Int))) :: _) := S
      refine WL_nil ?_
      refine T_n ?_
      refine WP_block ?_
      replace S := S.front1
      replace S := S.front1
      replace S := S.front1
      replace S := S.re1 (l' := q5 ++ ([] : List (Int × Int)).map Prod.snd) (by first | rfl | (simp; done))
      replace S := S.front1
      refine WP_loop (γ := List (Int × Int)) (fun (p : List (Int × Int)) a w => ∃ (M_16 : Hp) (u5 : Value), Hp.le M_7 M_16 ∧ St w M_16 (ItO u_11 es_13 ck_14 i_12 (encE (Value.int .i64) p) :: OwnI 3 u5 (q5 ++ p.map Prod.snd) :: H) ∧ Env a 44 [] [(0, v0), (5, u5), (25, .int .i64 (((l0).length : Nat) : Int)), (26, .int .i64 ((k : Nat) : Int)), (33, .pointer (some ⟨i_12, 0, none⟩))] ∧ ((p.map Prod.fst).Nodup) ∧ (∀ z ∈ p, z ∈ x_9) ∧ (p.length ≤ x_9.length)) (fun p => x_9.length - p.length) ([] : List (Int × Int)) ⟨M_7, _, Hp.le.refl _, S, E.keep ⟨rfl, rfl, rfl, rfl, rfl, trivial⟩, (by simp), (by simp), (by simp)⟩ ?_
      try clear E
      try clear S
      try clear a
      try clear w
      rintro p a w ⟨M_16, u5, hM_16, S, E, hL2_0, hL2_1, hL2_2⟩
      replace h0 := h0.le RMp_mono hM_16
      replace hu_11 := hu_11.le hM_16
      replace hf_15 := hf_15.le hM_16
      refine WP_seq ?_
      refine WP_region ?_
      refine S_x (X_nextE (vf := (Value.int .i64)) E S rfl hf_15 rfl (by assumption) (by assumption) ?_ ?_)
      · clear E a S; rintro a E hpm_17 S
        refine S_v E rfl (R_extract E rfl rfl) rfl ?_
        clear E a; intro a E
        refine WL_nil ?_
        refine T_n ?_
        refine WP_seq ?_
        refine WP_condF E rfl rfl ?_
        refine WP_exit ?_
        refine T_x ?_
        refine T_x ?_
        refine B_x ?_
        refine B_n ?_
        refine T_n ?_
        refine WP_region ?_
        refine S_v E rfl (R_addx (m := ((k + 1 : Nat) : Int)) E rfl rfl (by (have h9 := fl_lt (by assumption); omega)) (by (have h9 := fl_lt (by assumption); omega))) rfl ?_
        clear E a; intro a E
        refine S_v E rfl (R_move E rfl) rfl ?_
        clear E a; intro a E
        refine WL_nil ?_
        refine T_n ?_
        replace S := S.drop
        exact ⟨k + 1, ⟨M_16, _, _, (hM_7.trans hM_16), S, E.keep ⟨rfl, rfl, rfl, rfl, trivial⟩, by ((try clear S); (try clear E); first | assumption | omega | rfl | (simp; done) | (simp_all; done) | (simp [List.take_add_one, *]; done) | grind [List.take_add_one]), (by exact ky_step (by assumption) (by assumption) (by assumption))⟩, by omega⟩
      · clear E a S w; rintro a w k_18 u_20 E hk_19 hk_19n hk_19l S
        refine S_v E rfl (R_extract E rfl rfl) rfl ?_
        clear E a; intro a E
        refine WL_nil ?_
        refine T_n ?_
        refine WP_seq ?_
        refine WP_condT E rfl rfl ?_
        refine WP_skip ?_
        refine T_n ?_
        refine WP_block ?_
        refine WP_seq ?_
        refine WP_region ?_
        refine S_v E rfl (R_entry (k := k_18) (v := .int .i64 u_20) E (by have S1 := S; simp only [encE, List.map_append, List.map_cons, List.map_nil] at S1; exact S1) hf_15 rfl) rfl ?_
        clear E a; intro a E
        refine S_v E rfl (R_extract E rfl rfl) rfl ?_
        clear E a; intro a E
        refine S_v E rfl (R_assign E rfl) rfl ?_
        clear E a; intro a E
        refine WL_nil ?_
        refine T_n ?_
        refine WP_region ?_
        refine S_v E rfl (R_move E rfl) rfl ?_
        clear E a; intro a E
        refine S_v E rfl (R_move E rfl) rfl ?_
        clear E a; intro a E
        refine S_x (X_buildI (ys := [u_20]) E S rfl T22 rfl rfl rfl ?_)
        clear E a S; rintro a w v_21 E S
        replace S := S.front2
        replace S := S.front1
        refine S_x (X_appendB (xs := q5 ++ p.map Prod.snd) (ys := [u_20]) E S rfl rfl rfl T22 (by (have h9 := ky_lt (by assumption) (by assumption) (by assumption); have h8 := fl_in (by assumption); simp only [List.length_append, List.length_cons, List.length_nil] at *; omega)) ?_)
        clear E a S; rintro a w v_22 E S
        refine S_v E rfl (R_assign E rfl) rfl ?_
        clear E a; intro a E
        refine WL_nil ?_
        refine B_n ?_
        refine T_n ?_
        replace S := S.front1
        replace S := S.front1
        replace S := S.re1 (l' := q5 ++ (p ++ [(k_18, u_20)]).map Prod.snd) (by first | rfl | (simp; done))
        replace S := S.front1
        replace S := S.reIt (p' := (encE (Value.int .i64) (p ++ [(k_18, u_20)]))) (congrArg (encE (Value.int .i64)) (show p ++ [(k_18, u_20)] = (p ++ [(k_18, u_20)]) by first | rfl | (simp; done)))
        exact ⟨(p ++ [(k_18, u_20)]), ⟨M_16, _, hM_16, S, E.keep ⟨rfl, rfl, rfl, rfl, rfl, trivial⟩, (by exact snocNk (by assumption) (by assumption)), (by exact snocSk (by assumption) (by assumption)), (by simp; omega)⟩, (by simp; omega)⟩
    · replace hc_8 := of_decide_eq_false hc_8
      refine WP_exit ?_
      refine T_x ?_
      refine T_x ?_
      refine B_x ?_
      refine T_n ?_
      refine WP_seq ?_
      refine WP_region ?_
      refine S_v E rfl (R_move E rfl) rfl ?_
      clear E a; intro a E
      refine S_v E rfl (R_assign E rfl) rfl ?_
      clear E a; intro a E
      refine WL_nil ?_
      refine T_n ?_
      refine WP_ret ?_
      have S0 := S; clear S
      obtain ⟨M_23, hM_23, hz_24, S⟩ := S0.freezeI (by (have h9 := ky_len (by assumption); omega))
      clear S0
      replace h0 := h0.le RMp_mono hM_23
      exact F_ret1 E Tryz.results67 rfl ⟨_, rfl, M_23, (hM_1.trans (hM_7.trans hM_23)), ⟨_, hz_24, by (rw [← List.take_of_length_le (l := l0) (i := k) (by omega)]; assumption)⟩, S⟩

set_option maxRecDepth 100000 in
set_option maxHeartbeats 4000000 in
theorem impl_MapItems {M : Hp} {v0 : Value} {l0 : List (List (Int × Int))} (h0 : RdS 1 (RSl 2 RP2) M v0 l0) (hb : l0.flatten.length ≤ 1000000000000) (hbl : l0.length ≤ 1000000000000) :
    Pu Tryz.prog (.func (.func 33) #[] #[]) M [v0] (fun r M' => RdI M' r (srtM (valsM l0))) := by
  refine Pu_enter Tryz.func33 rfl Tryz.ntmps33 rfl Tryz.call33 ?_
  intro a w M1 H hM1 S E
  replace h0 := h0.le (RSl_mono RP2_mono) hM1
  have b0 := h0.bound
  refine WP_seq ?_
  refine WP_region ?_
  refine S_v E rfl (R_assign E rfl) rfl ?_
  clear E a; intro a E
  refine WL_nil ?_
  refine T_n ?_
  refine WP_seq ?_
  refine WP_region ?_
  refine S_v E rfl (R_assign E rfl) rfl ?_
  clear E a; intro a E
  refine WL_nil ?_
  refine T_n ?_
  refine WP_seq ?_
  refine WP_seq ?_
  refine WP_region ?_
  refine S_v E rfl (R_move E rfl) rfl ?_
  clear E a; intro a E
  refine S_v E rfl (R_lenV E rfl T41 h0.len) rfl ?_
  clear E a; intro a E
  refine S_v E rfl (R_move E rfl) rfl ?_
  clear E a; intro a E
  refine WL_nil ?_
  refine T_n ?_
  refine WP_block ?_
  replace S : St w M1 (OwnC 63 1 (.slice none 0 0) ([] : List (List (Int × Int))).length [] :: _) := S.ownNil
  have hr_2 : RowsR RMp 1 M1 ([] : List (List (Int × Int))) [] := RowsR.nil
  have hre : ([] : List (List (Int × Int))) = (l0.take 0).map mkE := by first | (simp; done) | (rw [tk_snoc (by assumption), List.map_append]; rfl)
  replace S := S.reR hre
  replace hr_2 := hr_2.eq hre
  clear hre
  refine WP_loop (γ := Nat) (fun (k : Nat) a w => ∃ (M_3 : Hp) (u3 : Value) (xs3 : List Value), Hp.le M1 M_3 ∧ St w M_3 (OwnC 63 1 u3 ((l0.take k).map mkE).length xs3 :: H) ∧ Env a 21 [] [(3, u3), (6, v0), (7, .int .i64 (((l0).length : Nat) : Int)), (8, .int .i64 ((k : Nat) : Int))] ∧ (k ≤ (l0).length) ∧ RowsR RMp 1 M_3 ((l0.take k).map mkE) xs3) (fun k => ((l0).length) - k) 0 ⟨M1, _, _, Hp.le.refl _, S, E.keep ⟨rfl, rfl, rfl, rfl, trivial⟩, by ((try clear S); (try clear E); first | assumption | omega | rfl | (simp; done) | (simp_all; done) | (simp [List.take_add_one, *]; done) | grind [List.take_add_one]), hr_2⟩ ?_
  try clear E
  try clear S
  try clear a
  try clear w
  rintro k a w ⟨M_3, u3, xs3, hM_3, S, E, hL0_0, hr3⟩
  replace h0 := h0.le (RSl_mono RP2_mono) hM_3
  refine WP_seq ?_
  refine WP_region ?_
  refine S_v E rfl (R_lss E rfl rfl) rfl ?_
  clear E a; intro a E
  refine WL_nil ?_
  refine T_n ?_
  refine WP_seq ?_
  refine WP_cond E rfl (fun hc_4 => ?_) (fun hc_4 => ?_)
  · replace hc_4 := of_decide_eq_true hc_4
    refine WP_skip ?_
    refine T_n ?_
    refine WP_seq ?_
    refine WP_block ?_
    refine WP_seq ?_
    refine WP_region ?_
    obtain ⟨x_5, hx_5⟩ : ∃ x, (l0)[k]? = some x := ⟨_, List.getElem?_eq_getElem (by first | omega | (simp; done) | (simp; omega) | (simp_all; omega))⟩
    obtain ⟨p_6, u_7, hp_6, qp_6, hu_7⟩ := RdPP.at h0 hx_5
    have bu_7 := hu_7.bound
    refine S_v E rfl (R_idx E rfl rfl T41 hp_6 rfl) rfl ?_
    clear E a; intro a E
    refine S_v E rfl (R_loadM E rfl Tryz.isAgg25 S.imm qp_6) rfl ?_
    clear E a; intro a E
    refine S_v E rfl (R_assign E rfl) rfl ?_
    clear E a; intro a E
    refine WL_nil ?_
    refine T_n ?_
    refine WP_region ?_
    refine S_v E rfl (R_move E rfl) rfl ?_
    clear E a; intro a E
    refine S_v E rfl (R_move E rfl) rfl ?_
    clear E a; intro a E
    refine S_x (X_pu E S rfl rfl rfl (impl_mapOf hu_7) (Hp.le.refl _) ?_)
    clear E a S; rintro a v_9 w M_8 hM_8 hv_9 S E
    replace h0 := h0.le (RSl_mono RP2_mono) hM_8
    replace hr3 := hr3.le RMp_mono hM_8
    replace hu_7 := hu_7.le RP2_mono hM_8
    refine S_x (X_buildM (R := RMp) (vs := [v_9]) (xs := [mkE x_5]) RMp_mono E S rfl T70 rfl rfl rfl (by intro u hu; simp only [List.mem_cons, List.not_mem_nil, or_false] at hu; rcases hu with rfl <;> first | exact RdM.one' hv_9) rfl (rowsC (R := RMp) ⟨_, rfl, hv_9⟩ rowsN) ?_)
    clear E a S; rintro a v_10 w M_11 hM_11 hv_10 S E
    replace h0 := h0.le (RSl_mono RP2_mono) hM_11
    replace hr3 := hr3.le RMp_mono hM_11
    replace hu_7 := hu_7.le RP2_mono hM_11
    replace hv_9 := hv_9.le hM_11
    refine S_x (X_appendR (R := RMp) (zs := (l0.take k).map mkE) (ys := [mkE x_5]) E S hr3 rfl rfl rfl T70 hv_10 one_RMp (by first | omega | (simp; done) | (simp; omega) | (simp_all; omega)) (by first | omega | (simp; done) | (simp; omega) | (simp_all; omega)) ?_)
    clear E a S; rintro a w v_12 xs_13 E hr_14 S
    refine S_v E rfl (R_assign E rfl) rfl ?_
    clear E a; intro a E
    refine WL_nil ?_
    refine B_n ?_
    refine T_n ?_
    refine WP_region ?_
    refine S_v E rfl (R_addx (m := ((k + 1 : Nat) : Int)) E rfl rfl (by omega) (by omega)) rfl ?_
    clear E a; intro a E
    refine S_v E rfl (R_move E rfl) rfl ?_
    clear E a; intro a E
    refine WL_nil ?_
    refine T_n ?_
    have hre : ((l0.take k).map mkE) ++ [mkE x_5] = (l0.take (k + 1)).map mkE := by first | (simp; done) | (rw [tk_snoc (by assumption), List.map_append]; rfl)
    replace S := S.reR hre
    replace hr_14 := hr_14.eq hre
    clear hre
    exact ⟨k + 1, ⟨M_11, _, _, (hM_3.trans (hM_8.trans hM_11)), S, E.keep ⟨rfl, rfl, rfl, rfl, trivial⟩, by ((try clear S); (try clear E); first | assumption | omega | rfl | (simp; done) | (simp_all; done) | (simp [List.take_add_one, *]; done) | grind [List.take_add_one]), hr_14⟩, by omega⟩
  · replace hc_4 := of_decide_eq_false hc_4
    refine WP_exit ?_
    refine T_x ?_
    refine T_x ?_
    refine B_x ?_
    refine T_n ?_
    refine WP_seq ?_
    refine WP_region ?_
    refine S_v E rfl (R_move E rfl) rfl ?_
    clear E a; intro a E
    have S0 := S; clear S
    obtain ⟨M_15, hM_15, hz_16, S⟩ := S0.freezeR hr3 RMp_mono (by (first | omega | (simp; omega)))
    clear S0
    replace h0 := h0.le (RSl_mono RP2_mono) hM_15
    refine S_x (X_pu E S rfl rfl rfl (lo_Values hz_16 (by first | omega | exact Nat.le_trans (fl_mk _ _) (by first | omega | (simp; done)) | (simp; omega))) (Hp.le.refl _) ?_)
    clear E a S; rintro a v_18 w M_17 hM_17 ⟨q_19, hv_18, hpq_19⟩ S E
    replace h0 := h0.le (RSl_mono RP2_mono) hM_17
    replace hz_16 := hz_16.le RMp_mono hM_17
    refine S_x (X_pu E S rfl rfl rfl (impl_sorted hv_18 (by first | omega | (simp; done) | (simp; omega) | exact Nat.le_trans (Nat.le_of_eq (List.Perm.length_eq (by assumption))) (by first | exact Nat.le_trans (flt_len _ _ _) (by omega) | (rw [List.length_map]; exact Nat.le_trans (fl_mk _ _) (by omega))) | exact Nat.le_trans (uq_len (by assumption) (by assumption)) (by rw [List.length_map]; exact Nat.le_trans (fl_mk _ _) (by omega)))) (Hp.le.refl _) ?_)
    clear E a S; rintro a v_21 w M_20 hM_20 hv_21 S E
    replace h0 := h0.le (RSl_mono RP2_mono) hM_20
    replace hz_16 := hz_16.le RMp_mono hM_20
    replace hv_18 := hv_18.le hM_20
    refine S_v E rfl (R_assign E rfl) rfl ?_
    clear E a; intro a E
    refine WL_nil ?_
    refine T_n ?_
    refine WP_ret ?_
    exact F_ret1 E Tryz.results33 rfl ⟨_, rfl, M_20, (hM_3.trans (hM_15.trans (hM_17.trans hM_20))), (by rw [show (srtM (valsM l0)) = (srtM q_19) from by (exact ky_res (k := k) (by omega) (by assumption))]; exact hv_21), S⟩

set_option maxRecDepth 100000 in
set_option maxHeartbeats 4000000 in
theorem lo_UniqKeys {M : Hp} {v0 : Value} {l0 : List (List (Int × Int))} (h0 : RdS 1 RMp M v0 l0) (hb : l0.flatten.length ≤ 1000000000000) :
    Pu Tryz.prog (.func (.func 68) #[] #[]) M [v0] (fun r M' => ∃ p_, RdI M' r p_ ∧ p_.Nodup ∧ ∀ z, z ∈ p_ ↔ z ∈ ((l0).flatten).map Prod.fst) := by
  refine Pu_enter Tryz.func68 rfl Tryz.ntmps68 rfl Tryz.call68 ?_
  intro a w M1 H hM1 S E
  replace h0 := h0.le RMp_mono hM1
  have b0 := h0.bound
  refine WP_seq ?_
  refine WP_region ?_
  refine S_v E rfl (R_assign E rfl) rfl ?_
  clear E a; intro a E
  refine WL_nil ?_
  refine T_n ?_
  refine WP_seq ?_
  refine WP_region ?_
  refine S_v E rfl (R_assign E rfl) rfl ?_
  clear E a; intro a E
  refine WL_nil ?_
  refine T_n ?_
  refine WP_seq ?_
  refine WP_seq ?_
  refine WP_region ?_
  refine S_v E rfl (R_move E rfl) rfl ?_
  clear E a; intro a E
  refine S_v E rfl (R_lenV E rfl T70 h0.len) rfl ?_
  clear E a; intro a E
  refine S_v E rfl (R_move E rfl) rfl ?_
  clear E a; intro a E
  refine WL_nil ?_
  refine T_n ?_
  refine WP_block ?_
  refine WP_loop (γ := Nat) (fun (k : Nat) a w => ∃ (M_1 : Hp), Hp.le M1 M_1 ∧ St w M_1 (H) ∧ Env a 57 [] [(0, v0), (3, .int .i64 ((((l0.take k).flatten).length : Nat) : Int)), (12, .int .i64 (((l0).length : Nat) : Int)), (13, .int .i64 ((k : Nat) : Int))] ∧ (k ≤ (l0).length)) (fun k => ((l0).length) - k) 0 ⟨M1, Hp.le.refl _, S, E.keep ⟨rfl, look_nat (i := 0) rfl (by (simp)), rfl, rfl, trivial⟩, by ((try clear S); (try clear E); first | assumption | omega | rfl | (simp; done) | (simp_all; done) | (simp [List.take_add_one, *]; done) | grind [List.take_add_one])⟩ ?_
  try clear E
  try clear S
  try clear a
  try clear w
  rintro k a w ⟨M_1, hM_1, S, E, hL0_0⟩
  replace h0 := h0.le RMp_mono hM_1
  have hfl := fl_le l0 k
  refine WP_seq ?_
  refine WP_region ?_
  refine S_v E rfl (R_lss E rfl rfl) rfl ?_
  clear E a; intro a E
  refine WL_nil ?_
  refine T_n ?_
  refine WP_seq ?_
  refine WP_cond E rfl (fun hc_2 => ?_) (fun hc_2 => ?_)
  · replace hc_2 := of_decide_eq_true hc_2
    refine WP_skip ?_
    refine T_n ?_
    refine WP_seq ?_
    refine WP_block ?_
    refine WP_seq ?_
    refine WP_region ?_
    refine S_v E rfl (R_move E rfl) rfl ?_
    clear E a; intro a E
    refine S_v E rfl (R_assign E rfl) rfl ?_
    clear E a; intro a E
    refine WL_nil ?_
    refine T_n ?_
    refine WP_region ?_
    refine S_v E rfl (R_move E rfl) rfl ?_
    clear E a; intro a E
    refine S_v E rfl (R_move E rfl) rfl ?_
    clear E a; intro a E
    refine S_v E rfl (R_move E rfl) rfl ?_
    clear E a; intro a E
    obtain ⟨x_3, hx_3⟩ : ∃ x, (l0)[k]? = some x := ⟨_, List.getElem?_eq_getElem (by first | omega | (simp; done) | (simp; omega) | (simp_all; omega))⟩
    obtain ⟨p_4, u_5, hp_4, qp_4, hu_5⟩ := RdMp.at h0 hx_3
    refine S_v E rfl (R_idx E rfl rfl T70 hp_4 rfl) rfl ?_
    clear E a; intro a E
    refine S_v E rfl (R_loadM E rfl Tryz.isAgg63 S.imm qp_4) rfl ?_
    clear E a; intro a E
    refine S_v E rfl ((R_lenF S.imm hu_5 E MT63 rfl).trans (by rw [encE_len])) rfl ?_
    clear E a; intro a E
    refine S_v E rfl (R_addx (m := ((((l0.take k).flatten).length + (x_3).length : Nat) : Int)) E rfl rfl (by (have h9 := fl_lt (by assumption); omega)) (by (have h9 := fl_lt (by assumption); omega))) rfl ?_
    clear E a; intro a E
    refine S_v E rfl (R_assign E rfl) rfl ?_
    clear E a; intro a E
    refine WL_nil ?_
    refine B_n ?_
    refine T_n ?_
    refine WP_region ?_
    refine S_v E rfl (R_addx (m := ((k + 1 : Nat) : Int)) E rfl rfl (by (have h9 := fl_lt (by assumption); omega)) (by (have h9 := fl_lt (by assumption); omega))) rfl ?_
    clear E a; intro a E
    refine S_v E rfl (R_move E rfl) rfl ?_
    clear E a; intro a E
    refine WL_nil ?_
    refine T_n ?_
    exact ⟨k + 1, ⟨M_1, hM_1, S, E.keep ⟨rfl, look_nat (i := ((l0.take k).flatten).length + (x_3).length) rfl (by (rw [fl_succ (by assumption), List.length_append])), rfl, rfl, trivial⟩, by ((try clear S); (try clear E); first | assumption | omega | rfl | (simp; done) | (simp_all; done) | (simp [List.take_add_one, *]; done) | grind [List.take_add_one])⟩, by omega⟩
  · replace hc_2 := of_decide_eq_false hc_2
    refine WP_exit ?_
    refine T_x ?_
    refine T_x ?_
    refine B_x ?_
    refine T_n ?_
    refine WP_seq ?_
    refine WP_region ?_
    refine S_v E rfl (R_move E rfl) rfl ?_
    clear E a; intro a E
    refine S_x (X_makeMapR E S rfl MT67 rfl ?_)
    clear E a S; rintro a w b_6 E S
    replace S : St w M_1 (OwnS b_6 ([] : List Int) :: _) := S
    refine S_v E rfl (R_assign E rfl) rfl ?_
    clear E a; intro a E
    refine WL_nil ?_
    refine T_n ?_
    refine WP_seq ?_
    refine WP_region ?_
    refine S_x (X_make0 (k := 0) E S rfl rfl rfl T22 rfl (by omega) (by omega) (by omega) ?_)
    clear E a S; rintro a w v_7 E S
    replace S := S.made0
    refine S_v E rfl (R_assign E rfl) rfl ?_
    clear E a; intro a E
    refine WL_nil ?_
    refine T_n ?_
    refine WP_seq ?_
    refine WP_seq ?_
    refine WP_region ?_
    refine S_v E rfl (R_move E rfl) rfl ?_
    clear E a; intro a E
    refine S_v E rfl (R_lenV E rfl T70 h0.len) rfl ?_
    clear E a; intro a E
    refine S_v E rfl (R_move E rfl) rfl ?_
    clear E a; intro a E
    refine WL_nil ?_
    refine T_n ?_
    refine WP_block ?_
    replace S := S.front1
    replace S := S.front1
    replace S := S.front1
    refine WP_loop (γ := Nat) (fun (k : Nat) a w => ∃ (M_8 : Hp) (q5 : ILst) (u6 : Value), Hp.le M_1 M_8 ∧ St w M_8 (OwnS b_6 q5 :: OwnI 3 u6 q5 :: H) ∧ Env a 57 [] [(0, v0), (5, .map (some b_6)), (6, u6), (28, .int .i64 (((l0).length : Nat) : Int)), (29, .int .i64 ((k : Nat) : Int))] ∧ (k ≤ (l0).length) ∧ (q5.Nodup) ∧ (∀ z, z ∈ q5 ↔ z ∈ ((l0.take k).flatten).map Prod.fst)) (fun k => ((l0).length) - k) 0 ⟨M_1, _, _, Hp.le.refl _, S, E.keep ⟨rfl, rfl, rfl, rfl, rfl, trivial⟩, by ((try clear S); (try clear E); first | assumption | omega | rfl | (simp; done) | (simp_all; done) | (simp [List.take_add_one, *]; done) | grind [List.take_add_one]), (by simp), (by simp)⟩ ?_
    try clear E
    try clear S
    try clear a
    try clear w
    rintro k a w ⟨M_8, q5, u6, hM_8, S, E, hL1_0, hL1_1, hL1_2⟩
    replace h0 := h0.le RMp_mono hM_8
    have hu5 := uq_len hL1_1 hL1_2; rw [List.length_map] at hu5; have hu6 := fl_le l0 k
    refine WP_seq ?_
    refine WP_region ?_
    refine S_v E rfl (R_lss E rfl rfl) rfl ?_
    clear E a; intro a E
    refine WL_nil ?_
    refine T_n ?_
    refine WP_seq ?_
    refine WP_cond E rfl (fun hc_9 => ?_) (fun hc_9 => ?_)
    · replace hc_9 := of_decide_eq_true hc_9
      refine WP_skip ?_
      refine T_n ?_
      refine WP_seq ?_
      refine WP_block ?_
      refine WP_seq ?_
      refine WP_region ?_
      refine S_v E rfl (R_move E rfl) rfl ?_
      clear E a; intro a E
      refine S_v E rfl (R_assign E rfl) rfl ?_
      clear E a; intro a E
      refine WL_nil ?_
      refine T_n ?_
      refine WP_seq ?_
      refine WP_region ?_
      refine S_v E rfl (R_move E rfl) rfl ?_
      clear E a; intro a E
      refine S_v E rfl (R_move E rfl) rfl ?_
      clear E a; intro a E
      obtain ⟨x_10, hx_10⟩ : ∃ x, (l0)[k]? = some x := ⟨_, List.getElem?_eq_getElem (by first | omega | (simp; done) | (simp; omega) | (simp_all; omega))⟩
      obtain ⟨p_11, u_12, hp_11, qp_11, hu_12⟩ := RdMp.at h0 hx_10
      refine S_v E rfl (R_idx E rfl rfl T70 hp_11 rfl) rfl ?_
      clear E a; intro a E
      refine S_v E rfl (R_loadM E rfl Tryz.isAgg63 S.imm qp_11) rfl ?_
      clear E a; intro a E
      refine S_x (X_range E S rfl MT63 hu_12 rfl ?_)
      clear E a S; rintro a w i_13 es_14 ck_15 E hf_16 S
      replace S : St w M_8 (ItO u_12 es_14 ck_15 i_13 (encE (Value.int .i64) ([] : List (Int × Int))) :: _) := S
      refine WL_nil ?_
      refine T_n ?_
      refine WP_block ?_
      replace S := S.front2
      replace S := S.front2
      replace S := S.front2
      replace S := S.front2
      replace S := S.re1 (l' := addL q5 (([] : List (Int × Int)).map Prod.fst)) (by first | rfl | (simp [addL]; done) | (rw [addL_mp]; first | exact addL_in (by assumption) | exact addL_out (by assumption) | exact addL_set))
      replace S := S.front2
      replace S := S.reM (L' := (Sl.encS (addL q5 (([] : List (Int × Int)).map Prod.fst)))) (congrArg Sl.encS (show q5 = addL q5 (([] : List (Int × Int)).map Prod.fst) by first | rfl | (simp [addL]; done) | (rw [addL_mp]; first | exact addL_in (by assumption) | exact addL_out (by assumption) | exact addL_set)))
      replace S := S.front2
      refine WP_loop (γ := List (Int × Int)) (fun (p : List (Int × Int)) a w => ∃ (M_17 : Hp) (u6 : Value), Hp.le M_8 M_17 ∧ St w M_17 (ItO u_12 es_14 ck_15 i_13 (encE (Value.int .i64) p) :: OwnS b_6 (addL q5 (p.map Prod.fst)) :: OwnI 3 u6 (addL q5 (p.map Prod.fst)) :: H) ∧ Env a 57 [] [(0, v0), (5, .map (some b_6)), (6, u6), (28, .int .i64 (((l0).length : Nat) : Int)), (29, .int .i64 ((k : Nat) : Int)), (36, .pointer (some ⟨i_13, 0, none⟩))] ∧ ((p.map Prod.fst).Nodup) ∧ (∀ z ∈ p, z ∈ x_10) ∧ (p.length ≤ x_10.length)) (fun p => x_10.length - p.length) ([] : List (Int × Int)) ⟨M_8, _, Hp.le.refl _, S, E.keep ⟨rfl, rfl, rfl, rfl, rfl, rfl, trivial⟩, (by simp), (by simp), (by simp)⟩ ?_
      try clear E
      try clear S
      try clear a
      try clear w
      rintro p a w ⟨M_17, u6, hM_17, S, E, hL2_0, hL2_1, hL2_2⟩
      replace h0 := h0.le RMp_mono hM_17
      replace hu_12 := hu_12.le hM_17
      replace hf_16 := hf_16.le hM_17
      have hu7 := addL_len q5 (p.map Prod.fst); rw [List.length_map] at hu7; have hu8 := fl_lt hx_10
      refine WP_seq ?_
      refine WP_region ?_
      refine S_x (X_nextE (vf := (Value.int .i64)) E S rfl hf_16 rfl (by assumption) (by assumption) ?_ ?_)
      · clear E a S; rintro a E hpm_18 S
        refine S_v E rfl (R_extract E rfl rfl) rfl ?_
        clear E a; intro a E
        refine WL_nil ?_
        refine T_n ?_
        refine WP_seq ?_
        refine WP_condF E rfl rfl ?_
        refine WP_exit ?_
        refine T_x ?_
        refine T_x ?_
        refine B_x ?_
        refine B_n ?_
        refine T_n ?_
        refine WP_region ?_
        refine S_v E rfl (R_addx (m := ((k + 1 : Nat) : Int)) E rfl rfl (by (have h9 := fl_lt (by assumption); omega)) (by (have h9 := fl_lt (by assumption); omega))) rfl ?_
        clear E a; intro a E
        refine S_v E rfl (R_move E rfl) rfl ?_
        clear E a; intro a E
        refine WL_nil ?_
        refine T_n ?_
        replace S := S.drop
        replace S := S.front1
        replace S := S.front1
        exact ⟨k + 1, ⟨M_17, _, _, (hM_8.trans hM_17), S, E.keep ⟨rfl, rfl, rfl, rfl, rfl, trivial⟩, by ((try clear S); (try clear E); first | assumption | omega | rfl | (simp; done) | (simp_all; done) | (simp [List.take_add_one, *]; done) | grind [List.take_add_one]), (by exact addL_nd (by assumption)), (by exact uq_step (by assumption) (by assumption) (by assumption))⟩, by omega⟩
      · clear E a S w; rintro a w k_19 u_21 E hk_20 hk_20n hk_20l S
        refine S_v E rfl (R_extract E rfl rfl) rfl ?_
        clear E a; intro a E
        refine WL_nil ?_
        refine T_n ?_
        refine WP_seq ?_
        refine WP_condT E rfl rfl ?_
        refine WP_skip ?_
        refine T_n ?_
        refine WP_block ?_
        refine WP_seq ?_
        refine WP_region ?_
        refine S_v E rfl (R_entry (k := k_19) (v := .int .i64 u_21) E (by have S1 := S; simp only [encE, List.map_append, List.map_cons, List.map_nil] at S1; exact S1) hf_16 rfl) rfl ?_
        clear E a; intro a E
        refine S_v E rfl (R_extract E rfl rfl) rfl ?_
        clear E a; intro a E
        refine S_v E rfl (R_assign E rfl) rfl ?_
        clear E a; intro a E
        refine WL_nil ?_
        refine T_n ?_
        refine WP_seq ?_
        refine WP_seq ?_
        refine WP_region ?_
        refine S_v E rfl (R_move E rfl) rfl ?_
        clear E a; intro a E
        refine S_v E rfl (R_move E rfl) rfl ?_
        clear E a; intro a E
        replace S := S.front1
        refine S_x (X_lookupS E S rfl MT67 rfl rfl ?_)
        clear E a S; rintro a w E S
        replace S : St w M_17 (OwnS b_6 (addL q5 (p.map Prod.fst)) :: _) := S
        refine S_v E rfl (R_move E rfl) rfl ?_
        clear E a; intro a E
        refine S_v E rfl (R_extract E rfl rfl) rfl ?_
        clear E a; intro a E
        refine S_v E rfl (R_extract E rfl rfl) rfl ?_
        clear E a; intro a E
        refine S_x (X_alloc (cs := #[]) E S rfl Tryz.zeroValue80 rfl ?_)
        clear E a S; rintro a w b_22 E S
        refine S_x0 (X_storeG (us := []) E S rfl rfl (Tryz.sizeOf80 _) rfl (by intro u hu; cases hu) ?_)
        clear E a S; rintro a w E S
        replace S : St w M_17 (blk b_22 (.cells #[] 80) :: _) := S
        have S0 := S; clear S
        obtain ⟨M_23, hM_23, hb_24, S⟩ := S0.freezeB
        clear S0
        replace h0 := h0.le RMp_mono hM_23
        replace hu_12 := hu_12.le hM_23
        replace hf_16 := hf_16.le hM_23
        refine S_v E rfl (R_assign E rfl) rfl ?_
        clear E a; intro a E
        refine WL_nil ?_
        refine T_n ?_
        refine WP_seq ?_
        refine WP_region ?_
        refine S_v E rfl (R_move E rfl) rfl ?_
        clear E a; intro a E
        refine WL_nil ?_
        refine T_n ?_
        refine WP_cond E rfl (fun hc_25 => ?_) (fun hc_25 => ?_)
        · replace hc_25 := of_decide_eq_true hc_25
          refine WP_exit ?_
          refine T_x ?_
          refine B_x ?_
          refine T_n ?_
          replace S := S.front2
          replace S := S.front1
          replace S := S.front2
          replace S := S.front2
          replace S := S.re1 (l' := addL q5 ((p ++ [(k_19, u_21)]).map Prod.fst)) (by first | rfl | (simp [addL]; done) | (rw [addL_mp]; first | exact addL_in (by assumption) | exact addL_out (by assumption) | exact addL_set))
          replace S := S.front2
          replace S := S.reM (L' := (Sl.encS (addL q5 ((p ++ [(k_19, u_21)]).map Prod.fst)))) (congrArg Sl.encS (show addL q5 (p.map Prod.fst) = addL q5 ((p ++ [(k_19, u_21)]).map Prod.fst) by first | rfl | (simp [addL]; done) | (rw [addL_mp]; first | exact addL_in (by assumption) | exact addL_out (by assumption) | exact addL_set)))
          replace S := S.front2
          replace S := S.reIt (p' := (encE (Value.int .i64) (p ++ [(k_19, u_21)]))) (congrArg (encE (Value.int .i64)) (show p ++ [(k_19, u_21)] = (p ++ [(k_19, u_21)]) by first | rfl | (simp [addL]; done) | (rw [addL_mp]; first | exact addL_in (by assumption) | exact addL_out (by assumption) | exact addL_set)))
          exact ⟨(p ++ [(k_19, u_21)]), ⟨M_23, _, (hM_17.trans hM_23), S, E.keep ⟨rfl, rfl, rfl, rfl, rfl, rfl, trivial⟩, (by exact snocNk (by assumption) (by assumption)), (by exact snocSk (by assumption) (by assumption)), (by simp; omega)⟩, (by simp; omega)⟩
        · replace hc_25 := of_decide_eq_false hc_25
          refine WP_skip ?_
          refine T_n ?_
          refine WP_seq ?_
          refine WP_region ?_
          refine S_v E rfl (R_move E rfl) rfl ?_
          clear E a; intro a E
          refine S_v E rfl (R_move E rfl) rfl ?_
          clear E a; intro a E
          refine S_v E rfl (R_build (u := .agg #[]) (vs := []) E rfl (fun w => FB80__  w)) rfl ?_
          clear E a; intro a E
          refine S_x0 (X_updateS E S MT67 rfl rfl rfl ?_)
          clear E a S; rintro a w E S
          refine WL_nil ?_
          refine T_n ?_
          refine WP_region ?_
          refine S_v E rfl (R_move E rfl) rfl ?_
          clear E a; intro a E
          refine S_v E rfl (R_move E rfl) rfl ?_
          clear E a; intro a E
          refine S_x (X_buildI (ys := [k_19]) E S rfl T22 rfl rfl rfl ?_)
          clear E a S; rintro a w v_26 E S
          replace S := S.front3
          replace S := S.front1
          refine S_x (X_appendB (xs := addL q5 (p.map Prod.fst)) (ys := [k_19]) E S rfl rfl rfl T22 (by (simp only [List.length_cons, List.length_nil] at *; omega)) ?_)
          clear E a S; rintro a w v_27 E S
          refine S_v E rfl (R_assign E rfl) rfl ?_
          clear E a; intro a E
          refine WL_nil ?_
          refine B_n ?_
          refine T_n ?_
          replace S := S.front1
          replace S := S.front2
          replace S := S.front2
          replace S := S.re1 (l' := addL q5 ((p ++ [(k_19, u_21)]).map Prod.fst)) (by first | rfl | (simp [addL]; done) | (rw [addL_mp]; first | exact addL_in (by assumption) | exact addL_out (by assumption) | exact addL_set))
          replace S := S.front2
          replace S := S.reM (L' := (Sl.encS (addL q5 ((p ++ [(k_19, u_21)]).map Prod.fst)))) (congrArg Sl.encS (show addS (addL q5 (p.map Prod.fst)) k_19 = addL q5 ((p ++ [(k_19, u_21)]).map Prod.fst) by first | rfl | (simp [addL]; done) | (rw [addL_mp]; first | exact addL_in (by assumption) | exact addL_out (by assumption) | exact addL_set)))
          replace S := S.front2
          replace S := S.reIt (p' := (encE (Value.int .i64) (p ++ [(k_19, u_21)]))) (congrArg (encE (Value.int .i64)) (show p ++ [(k_19, u_21)] = (p ++ [(k_19, u_21)]) by first | rfl | (simp [addL]; done) | (rw [addL_mp]; first | exact addL_in (by assumption) | exact addL_out (by assumption) | exact addL_set)))
          exact ⟨(p ++ [(k_19, u_21)]), ⟨M_23, _, (hM_17.trans hM_23), S, E.keep ⟨rfl, rfl, rfl, rfl, rfl, rfl, trivial⟩, (by exact snocNk (by assumption) (by assumption)), (by exact snocSk (by assumption) (by assumption)), (by simp; omega)⟩, (by simp; omega)⟩
    · replace hc_9 := of_decide_eq_false hc_9
      refine WP_exit ?_
      refine T_x ?_
      refine T_x ?_
      refine B_x ?_
      refine T_n ?_
      refine WP_seq ?_
      refine WP_region ?_
      refine S_v E rfl (R_move E rfl) rfl ?_
      clear E a; intro a E
      refine S_v E rfl (R_assign E rfl) rfl ?_
      clear E a; intro a E
      refine WL_nil ?_
      refine T_n ?_
      refine WP_ret ?_
      replace S := S.front1
      have S0 := S; clear S
      obtain ⟨M_28, hM_28, hz_29, S⟩ := S0.freezeI (by (first | omega | (have hu5 := uq_len (by assumption) (by assumption); rw [List.length_map] at hu5; have hu6 := fl_le l0 k; omega)))
      clear S0
      replace h0 := h0.le RMp_mono hM_28
      exact F_ret1 E Tryz.results68 rfl ⟨_, rfl, M_28, (hM_1.trans (hM_8.trans hM_28)), ⟨_, hz_29, by (rw [← List.take_of_length_le (l := l0) (i := k) (by omega)]; exact ⟨by assumption, by assumption⟩)⟩, S.drop⟩

set_option maxRecDepth 100000 in
set_option maxHeartbeats 4000000 in
theorem impl_UniqKeys {M : Hp} {v0 : Value} {l0 : List (List (Int × Int))} (h0 : RdS 1 (RSl 2 RP2) M v0 l0) (hb : l0.flatten.length ≤ 1000000000000) (hbl : l0.length ≤ 1000000000000) :
    Pu Tryz.prog (.func (.func 34) #[] #[]) M [v0] (fun r M' => RdI M' r (setI (keysM l0))) := by
  refine Pu_enter Tryz.func34 rfl Tryz.ntmps34 rfl Tryz.call34 ?_
  intro a w M1 H hM1 S E
  replace h0 := h0.le (RSl_mono RP2_mono) hM1
  have b0 := h0.bound
  refine WP_seq ?_
  refine WP_region ?_
  refine S_v E rfl (R_assign E rfl) rfl ?_
  clear E a; intro a E
  refine WL_nil ?_
  refine T_n ?_
  refine WP_seq ?_
  refine WP_region ?_
  refine S_v E rfl (R_assign E rfl) rfl ?_
  clear E a; intro a E
  refine WL_nil ?_
  refine T_n ?_
  refine WP_seq ?_
  refine WP_seq ?_
  refine WP_region ?_
  refine S_v E rfl (R_move E rfl) rfl ?_
  clear E a; intro a E
  refine S_v E rfl (R_lenV E rfl T41 h0.len) rfl ?_
  clear E a; intro a E
  refine S_v E rfl (R_move E rfl) rfl ?_
  clear E a; intro a E
  refine WL_nil ?_
  refine T_n ?_
  refine WP_block ?_
  replace S : St w M1 (OwnC 63 1 (.slice none 0 0) ([] : List (List (Int × Int))).length [] :: _) := S.ownNil
  have hr_2 : RowsR RMp 1 M1 ([] : List (List (Int × Int))) [] := RowsR.nil
  have hre : ([] : List (List (Int × Int))) = (l0.take 0).map mkE := by first | (simp; done) | (rw [tk_snoc (by assumption), List.map_append]; rfl)
  replace S := S.reR hre
  replace hr_2 := hr_2.eq hre
  clear hre
  refine WP_loop (γ := Nat) (fun (k : Nat) a w => ∃ (M_3 : Hp) (u3 : Value) (xs3 : List Value), Hp.le M1 M_3 ∧ St w M_3 (OwnC 63 1 u3 ((l0.take k).map mkE).length xs3 :: H) ∧ Env a 21 [] [(3, u3), (6, v0), (7, .int .i64 (((l0).length : Nat) : Int)), (8, .int .i64 ((k : Nat) : Int))] ∧ (k ≤ (l0).length) ∧ RowsR RMp 1 M_3 ((l0.take k).map mkE) xs3) (fun k => ((l0).length) - k) 0 ⟨M1, _, _, Hp.le.refl _, S, E.keep ⟨rfl, rfl, rfl, rfl, trivial⟩, by ((try clear S); (try clear E); first | assumption | omega | rfl | (simp; done) | (simp_all; done) | (simp [List.take_add_one, *]; done) | grind [List.take_add_one]), hr_2⟩ ?_
  try clear E
  try clear S
  try clear a
  try clear w
  rintro k a w ⟨M_3, u3, xs3, hM_3, S, E, hL0_0, hr3⟩
  replace h0 := h0.le (RSl_mono RP2_mono) hM_3
  refine WP_seq ?_
  refine WP_region ?_
  refine S_v E rfl (R_lss E rfl rfl) rfl ?_
  clear E a; intro a E
  refine WL_nil ?_
  refine T_n ?_
  refine WP_seq ?_
  refine WP_cond E rfl (fun hc_4 => ?_) (fun hc_4 => ?_)
  · replace hc_4 := of_decide_eq_true hc_4
    refine WP_skip ?_
    refine T_n ?_
    refine WP_seq ?_
    refine WP_block ?_
    refine WP_seq ?_
    refine WP_region ?_
    obtain ⟨x_5, hx_5⟩ : ∃ x, (l0)[k]? = some x := ⟨_, List.getElem?_eq_getElem (by first | omega | (simp; done) | (simp; omega) | (simp_all; omega))⟩
    obtain ⟨p_6, u_7, hp_6, qp_6, hu_7⟩ := RdPP.at h0 hx_5
    have bu_7 := hu_7.bound
    refine S_v E rfl (R_idx E rfl rfl T41 hp_6 rfl) rfl ?_
    clear E a; intro a E
    refine S_v E rfl (R_loadM E rfl Tryz.isAgg25 S.imm qp_6) rfl ?_
    clear E a; intro a E
    refine S_v E rfl (R_assign E rfl) rfl ?_
    clear E a; intro a E
    refine WL_nil ?_
    refine T_n ?_
    refine WP_region ?_
    refine S_v E rfl (R_move E rfl) rfl ?_
    clear E a; intro a E
    refine S_v E rfl (R_move E rfl) rfl ?_
    clear E a; intro a E
    refine S_x (X_pu E S rfl rfl rfl (impl_mapOf hu_7) (Hp.le.refl _) ?_)
    clear E a S; rintro a v_9 w M_8 hM_8 hv_9 S E
    replace h0 := h0.le (RSl_mono RP2_mono) hM_8
    replace hr3 := hr3.le RMp_mono hM_8
    replace hu_7 := hu_7.le RP2_mono hM_8
    refine S_x (X_buildM (R := RMp) (vs := [v_9]) (xs := [mkE x_5]) RMp_mono E S rfl T70 rfl rfl rfl (by intro u hu; simp only [List.mem_cons, List.not_mem_nil, or_false] at hu; rcases hu with rfl <;> first | exact RdM.one' hv_9) rfl (rowsC (R := RMp) ⟨_, rfl, hv_9⟩ rowsN) ?_)
    clear E a S; rintro a v_10 w M_11 hM_11 hv_10 S E
    replace h0 := h0.le (RSl_mono RP2_mono) hM_11
    replace hr3 := hr3.le RMp_mono hM_11
    replace hu_7 := hu_7.le RP2_mono hM_11
    replace hv_9 := hv_9.le hM_11
    refine S_x (X_appendR (R := RMp) (zs := (l0.take k).map mkE) (ys := [mkE x_5]) E S hr3 rfl rfl rfl T70 hv_10 one_RMp (by first | omega | (simp; done) | (simp; omega) | (simp_all; omega)) (by first | omega | (simp; done) | (simp; omega) | (simp_all; omega)) ?_)
    clear E a S; rintro a w v_12 xs_13 E hr_14 S
    refine S_v E rfl (R_assign E rfl) rfl ?_
    clear E a; intro a E
    refine WL_nil ?_
    refine B_n ?_
    refine T_n ?_
    refine WP_region ?_
    refine S_v E rfl (R_addx (m := ((k + 1 : Nat) : Int)) E rfl rfl (by omega) (by omega)) rfl ?_
    clear E a; intro a E
    refine S_v E rfl (R_move E rfl) rfl ?_
    clear E a; intro a E
    refine WL_nil ?_
    refine T_n ?_
    have hre : ((l0.take k).map mkE) ++ [mkE x_5] = (l0.take (k + 1)).map mkE := by first | (simp; done) | (rw [tk_snoc (by assumption), List.map_append]; rfl)
    replace S := S.reR hre
    replace hr_14 := hr_14.eq hre
    clear hre
    exact ⟨k + 1, ⟨M_11, _, _, (hM_3.trans (hM_8.trans hM_11)), S, E.keep ⟨rfl, rfl, rfl, rfl, trivial⟩, by ((try clear S); (try clear E); first | assumption | omega | rfl | (simp; done) | (simp_all; done) | (simp [List.take_add_one, *]; done) | grind [List.take_add_one]), hr_14⟩, by omega⟩
  · replace hc_4 := of_decide_eq_false hc_4
    refine WP_exit ?_
    refine T_x ?_
    refine T_x ?_
    refine B_x ?_
    refine T_n ?_
    refine WP_seq ?_
    refine WP_region ?_
    refine S_v E rfl (R_move E rfl) rfl ?_
    clear E a; intro a E
    have S0 := S; clear S
    obtain ⟨M_15, hM_15, hz_16, S⟩ := S0.freezeR hr3 RMp_mono (by (first | omega | (simp; omega)))
    clear S0
    replace h0 := h0.le (RSl_mono RP2_mono) hM_15
    refine S_x (X_pu E S rfl rfl rfl (lo_UniqKeys hz_16 (by first | omega | exact Nat.le_trans (fl_mk _ _) (by first | omega | (simp; done)) | (simp; omega))) (Hp.le.refl _) ?_)
    clear E a S; rintro a v_18 w M_17 hM_17 ⟨q_19, hv_18, hnq_19, hmq_19⟩ S E
    replace h0 := h0.le (RSl_mono RP2_mono) hM_17
    replace hz_16 := hz_16.le RMp_mono hM_17
    refine S_x (X_pu E S rfl rfl rfl (impl_sorted hv_18 (by first | omega | (simp; done) | (simp; omega) | exact Nat.le_trans (Nat.le_of_eq (List.Perm.length_eq (by assumption))) (by first | exact Nat.le_trans (flt_len _ _ _) (by omega) | (rw [List.length_map]; exact Nat.le_trans (fl_mk _ _) (by omega))) | exact Nat.le_trans (uq_len (by assumption) (by assumption)) (by rw [List.length_map]; exact Nat.le_trans (fl_mk _ _) (by omega)))) (Hp.le.refl _) ?_)
    clear E a S; rintro a v_21 w M_20 hM_20 hv_21 S E
    replace h0 := h0.le (RSl_mono RP2_mono) hM_20
    replace hz_16 := hz_16.le RMp_mono hM_20
    replace hv_18 := hv_18.le hM_20
    refine S_v E rfl (R_assign E rfl) rfl ?_
    clear E a; intro a E
    refine WL_nil ?_
    refine T_n ?_
    refine WP_ret ?_
    exact F_ret1 E Tryz.results34 rfl ⟨_, rfl, M_20, (hM_3.trans (hM_15.trans (hM_17.trans hM_20))), (by rw [show (setI (keysM l0)) = (srtM q_19) from by (exact uq_res (k := k) (by omega) (by assumption) (by assumption))]; exact hv_21), S⟩

set_option maxRecDepth 100000 in
set_option maxHeartbeats 4000000 in
theorem laws_in {M : Hp} {v0 : Value} {l0 : List Int} (h0 : RdI M v0 l0){x1 : Int} :
    Pu Tryz.prog (.func (.func 7) #[] #[]) M [v0, .int .i64 x1] (fun r M' => r = .bool (decide (x1 ∈ l0))) := by
  refine Pu_enter Tryz.func7 rfl Tryz.ntmps7 rfl Tryz.call7 ?_
  intro a w M1 H hM1 S E
  replace h0 := h0.le hM1
  have b0 := h0.bound
  refine WP_seq ?_
  refine WP_region ?_
  refine S_v E rfl (R_assign E rfl) rfl ?_
  clear E a; intro a E
  refine WL_nil ?_
  refine T_n ?_
  refine WP_seq ?_
  refine WP_seq ?_
  refine WP_region ?_
  refine S_v E rfl (R_move E rfl) rfl ?_
  clear E a; intro a E
  refine S_v E rfl (R_lenV E rfl T22 h0.len) rfl ?_
  clear E a; intro a E
  refine S_v E rfl (R_move E rfl) rfl ?_
  clear E a; intro a E
  refine WL_nil ?_
  refine T_n ?_
  refine WP_block ?_
  refine WP_loop (γ := Nat) (fun (k : Nat) a w => ∃ (M_1 : Hp), Hp.le M1 M_1 ∧ St w M_1 (H) ∧ Env a 17 [] [(1, .int .i64 x1), (7, v0), (8, .int .i64 (((l0).length : Nat) : Int)), (9, .int .i64 ((k : Nat) : Int))] ∧ (k ≤ (l0).length) ∧ (x1 ∉ l0.take k)) (fun k => ((l0).length) - k) 0 ⟨M1, Hp.le.refl _, S, E.keep ⟨rfl, rfl, rfl, rfl, trivial⟩, by ((try clear S); (try clear E); first | assumption | omega | rfl | (simp; done) | (simp_all; done) | (simp [List.take_add_one, *]; done) | grind [List.take_add_one]), by ((try clear S); (try clear E); first | assumption | omega | rfl | (simp; done) | (simp_all; done) | (simp [List.take_add_one, *]; done) | grind [List.take_add_one])⟩ ?_
  try clear E
  try clear S
  try clear a
  try clear w
  rintro k a w ⟨M_1, hM_1, S, E, hL0_0, hL0_1⟩
  replace h0 := h0.le hM_1
  refine WP_seq ?_
  refine WP_region ?_
  refine S_v E rfl (R_lss E rfl rfl) rfl ?_
  clear E a; intro a E
  refine WL_nil ?_
  refine T_n ?_
  refine WP_seq ?_
  refine WP_cond E rfl (fun hc_2 => ?_) (fun hc_2 => ?_)
  · replace hc_2 := of_decide_eq_true hc_2
    refine WP_skip ?_
    refine T_n ?_
    refine WP_seq ?_
    refine WP_block ?_
    refine WP_seq ?_
    refine WP_region ?_
    obtain ⟨x_3, hx_3⟩ : ∃ x, (l0)[k]? = some x := ⟨_, List.getElem?_eq_getElem (by first | omega | (simp; done) | (simp; omega) | (simp_all; omega))⟩
    obtain ⟨p_4, hp_4, qp_4⟩ := h0.at hx_3
    refine S_v E rfl (R_idx E rfl rfl T22 hp_4 rfl) rfl ?_
    clear E a; intro a E
    refine S_v E rfl (R_loadM E rfl Tryz.isAgg3 S.imm qp_4) rfl ?_
    clear E a; intro a E
    refine S_v E rfl (R_assign E rfl) rfl ?_
    clear E a; intro a E
    refine WL_nil ?_
    refine T_n ?_
    refine WP_seq ?_
    refine WP_region ?_
    refine S_v E rfl (R_move E rfl) rfl ?_
    clear E a; intro a E
    refine S_v E rfl (R_move E rfl) rfl ?_
    clear E a; intro a E
    refine S_v E rfl (R_eql E rfl rfl) rfl ?_
    clear E a; intro a E
    refine WL_nil ?_
    refine T_n ?_
    refine WP_cond E rfl (fun hc_5 => ?_) (fun hc_5 => ?_)
    · replace hc_5 := of_decide_eq_true hc_5
      refine WP_seq ?_
      refine WP_region ?_
      refine S_v E rfl (R_assign E rfl) rfl ?_
      clear E a; intro a E
      refine WL_nil ?_
      refine T_n ?_
      refine WP_ret ?_
      refine B_r ?_
      refine T_r ?_
      refine T_r ?_
      refine B_r ?_
      refine T_r ?_
      exact F_ret1 E Tryz.results7 rfl ⟨_, rfl, M_1, hM_1, (bT (by (refine List.mem_of_getElem? (i := k) ?_; simp_all))), S⟩
    · replace hc_5 := of_decide_eq_false hc_5
      refine WP_skip ?_
      refine B_n ?_
      refine T_n ?_
      refine WP_region ?_
      refine S_v E rfl (R_addx (m := ((k + 1 : Nat) : Int)) E rfl rfl (by omega) (by omega)) rfl ?_
      clear E a; intro a E
      refine S_v E rfl (R_move E rfl) rfl ?_
      clear E a; intro a E
      refine WL_nil ?_
      refine T_n ?_
      exact ⟨k + 1, ⟨M_1, hM_1, S, E.keep ⟨rfl, rfl, rfl, rfl, trivial⟩, by ((try clear S); (try clear E); first | assumption | omega | rfl | (simp; done) | (simp_all; done) | (simp [List.take_add_one, *]; done) | grind [List.take_add_one]), by ((try clear S); (try clear E); first | assumption | omega | rfl | (simp; done) | (simp_all; done) | (simp [List.take_add_one, *]; done) | grind [List.take_add_one])⟩, by omega⟩
  · replace hc_2 := of_decide_eq_false hc_2
    refine WP_exit ?_
    refine T_x ?_
    refine T_x ?_
    refine B_x ?_
    refine T_n ?_
    refine WP_seq ?_
    refine WP_region ?_
    refine S_v E rfl (R_assign E rfl) rfl ?_
    clear E a; intro a E
    refine WL_nil ?_
    refine T_n ?_
    refine WP_ret ?_
    exact F_ret1 E Tryz.results7 rfl ⟨_, rfl, M_1, hM_1, (bF (by (rw [List.take_of_length_le (by omega)] at hL0_1; exact hL0_1))), S⟩

set_option maxRecDepth 100000 in
set_option maxHeartbeats 4000000 in
theorem laws_sorted {M : Hp} {v0 : Value} {l0 : List Int} (h0 : RdI M v0 l0) (hb : l0.length ≤ 1000000000000) :
    Pu Tryz.prog (.func (.func 9) #[] #[]) M [v0] (fun r M' => RdI M' r (setI l0)) := by
  refine Pu_enter Tryz.func9 rfl Tryz.ntmps9 rfl Tryz.call9 ?_
  intro a w M1 H hM1 S E
  replace h0 := h0.le hM1
  have b0 := h0.bound
  refine WP_seq ?_
  refine WP_region ?_
  refine S_v E rfl (R_assign E rfl) rfl ?_
  clear E a; intro a E
  refine WL_nil ?_
  refine T_n ?_
  refine WP_seq ?_
  refine WP_region ?_
  refine S_v E rfl (R_assign E rfl) rfl ?_
  clear E a; intro a E
  refine WL_nil ?_
  refine T_n ?_
  refine WP_seq ?_
  refine WP_seq ?_
  refine WP_region ?_
  refine S_v E rfl (R_move E rfl) rfl ?_
  clear E a; intro a E
  refine S_v E rfl (R_lenV E rfl T22 h0.len) rfl ?_
  clear E a; intro a E
  refine S_v E rfl (R_move E rfl) rfl ?_
  clear E a; intro a E
  refine WL_nil ?_
  refine T_n ?_
  refine WP_block ?_
  replace S := (S.ownNil (e := 3) (sz := 1)).made0
  replace S := S.re1 (l' := setI (l0.take 0)) (by first | (simp [setI]; done) | (rw [setI_take' (by assumption), insU_same (by rw [show l0[k]? = some _ by assumption]; assumption)]; done) | (rw [setI_take' (by assumption)]; exact set_bubble hsu.1 (by rw [show l0[k]? = some _ by assumption]; assumption) hL1_1 (by omega) (by first | (left; omega) | (right; exact ⟨_, bub_left (s := setI (l0.take k)) (x := (l0[k]?.getD 0)) (i := (setI (l0.take k)).length - j) (by omega) (by omega) (by assumption), by rw [← bub_at (s := setI (l0.take k)) (x := (l0[k]?.getD 0)) (i := (setI (l0.take k)).length - j) (by omega) (by assumption)]; assumption⟩))))
  refine WP_loop (γ := Nat) (fun (k : Nat) a w => ∃ (M_2 : Hp) (u3 : Value), Hp.le M1 M_2 ∧ St w M_2 (OwnI 3 u3 (setI (l0.take k)) :: H) ∧ Env a 57 [] [(3, u3), (7, v0), (8, .int .i64 (((l0).length : Nat) : Int)), (9, .int .i64 ((k : Nat) : Int))] ∧ (k ≤ (l0).length)) (fun k => ((l0).length) - k) 0 ⟨M1, _, Hp.le.refl _, S, E.keep ⟨rfl, rfl, rfl, rfl, trivial⟩, by ((try clear S); (try clear E); first | assumption | omega | rfl | (simp; done) | (simp_all; done) | (simp [List.take_add_one, *]; done) | grind [List.take_add_one])⟩ ?_
  try clear E
  try clear S
  try clear a
  try clear w
  rintro k a w ⟨M_2, u3, hM_2, S, E, hL0_0⟩
  replace h0 := h0.le hM_2
  have hsu := setI_spec (l0.take k); have hsl := hsu.2.2; simp only [List.length_take] at hsl
  refine WP_seq ?_
  refine WP_region ?_
  refine S_v E rfl (R_lss E rfl rfl) rfl ?_
  clear E a; intro a E
  refine WL_nil ?_
  refine T_n ?_
  refine WP_seq ?_
  refine WP_cond E rfl (fun hc_3 => ?_) (fun hc_3 => ?_)
  · replace hc_3 := of_decide_eq_true hc_3
    refine WP_skip ?_
    refine T_n ?_
    refine WP_seq ?_
    refine WP_block ?_
    refine WP_seq ?_
    refine WP_region ?_
    obtain ⟨x_4, hx_4⟩ : ∃ x, (l0)[k]? = some x := ⟨_, List.getElem?_eq_getElem (by first | omega | (simp; done) | (simp; omega) | (simp_all; omega))⟩
    obtain ⟨p_5, hp_5, qp_5⟩ := h0.at hx_4
    refine S_v E rfl (R_idx E rfl rfl T22 hp_5 rfl) rfl ?_
    clear E a; intro a E
    refine S_v E rfl (R_loadM E rfl Tryz.isAgg3 S.imm qp_5) rfl ?_
    clear E a; intro a E
    refine S_v E rfl (R_assign E rfl) rfl ?_
    clear E a; intro a E
    refine WL_nil ?_
    refine T_n ?_
    refine WP_seq ?_
    refine WP_seq ?_
    refine WP_region ?_
    refine S_v E rfl (R_move E rfl) rfl ?_
    clear E a; intro a E
    refine S_v E rfl (R_move E rfl) rfl ?_
    clear E a; intro a E
    obtain ⟨ML_6, hl_7, hv_8, S1, back⟩ := S.lendI (by omega)
    refine S_x (X_pu E S1 rfl rfl rfl (laws_in hv_8) (Hp.le.refl _) ?_)
    clear E a S; rintro a _ w M_9 hM_10 rfl S E
    replace S := back _ _ hM_10 S
    clear back S1
    refine WL_nil ?_
    refine T_n ?_
    refine WP_cond E rfl (fun hc_11 => ?_) (fun hc_11 => ?_)
    · replace hc_11 := of_decide_eq_true hc_11
      refine WP_exit ?_
      refine T_x ?_
      refine B_x ?_
      refine T_n ?_
      refine WP_region ?_
      refine S_v E rfl (R_addx (m := ((k + 1 : Nat) : Int)) E rfl rfl (by omega) (by omega)) rfl ?_
      clear E a; intro a E
      refine S_v E rfl (R_move E rfl) rfl ?_
      clear E a; intro a E
      refine WL_nil ?_
      refine T_n ?_
      replace S := S.re1 (l' := setI (l0.take (k + 1))) (by first | (simp [setI]; done) | (rw [setI_take' (by assumption), insU_same (by rw [show l0[k]? = some _ by assumption]; assumption)]; done) | (rw [setI_take' (by assumption)]; exact set_bubble hsu.1 (by rw [show l0[k]? = some _ by assumption]; assumption) hL1_1 (by omega) (by first | (left; omega) | (right; exact ⟨_, bub_left (s := setI (l0.take k)) (x := (l0[k]?.getD 0)) (i := (setI (l0.take k)).length - j) (by omega) (by omega) (by assumption), by rw [← bub_at (s := setI (l0.take k)) (x := (l0[k]?.getD 0)) (i := (setI (l0.take k)).length - j) (by omega) (by assumption)]; assumption⟩))))
      exact ⟨k + 1, ⟨M_2, _, hM_2, S, E.keep ⟨rfl, rfl, rfl, rfl, trivial⟩, by ((try clear S); (try clear E); first | assumption | omega | rfl | (simp; done) | (simp_all; done) | (simp [List.take_add_one, *]; done) | grind [List.take_add_one])⟩, by omega⟩
    · replace hc_11 := of_decide_eq_false hc_11
      refine WP_skip ?_
      refine T_n ?_
      refine WP_seq ?_
      refine WP_region ?_
      refine S_v E rfl (R_move E rfl) rfl ?_
      clear E a; intro a E
      refine S_v E rfl (R_move E rfl) rfl ?_
      clear E a; intro a E
      refine S_x (X_buildI (ys := [x_4]) E S rfl T22 rfl rfl rfl ?_)
      clear E a S; rintro a w v_12 E S
      replace S := S.front1
      replace S := S.front1
      refine S_x (X_appendB (xs := setI (l0.take k)) (ys := [x_4]) E S rfl rfl rfl T22 (by first | omega | (simp; done) | (simp; omega) | (simp_all; omega)) ?_)
      clear E a S; rintro a w v_13 E S
      refine S_v E rfl (R_assign E rfl) rfl ?_
      clear E a; intro a E
      refine WL_nil ?_
      refine T_n ?_
      refine WP_seq ?_
      refine WP_region ?_
      refine S_v E rfl (R_move E rfl) rfl ?_
      clear E a; intro a E
      refine S_v E rfl (R_lenV E rfl T22 S.lenC) rfl ?_
      clear E a; intro a E
      refine S_v E rfl (R_subx (m := ((((setI (l0.take k)) ++ [x_4]).length - 1 : Nat) : Int)) E rfl rfl (by first | omega | (simp; done) | (simp; omega)) (by first | omega | (simp; done) | (simp; omega))) rfl ?_
      clear E a; intro a E
      refine S_v E rfl (R_assign E rfl) rfl ?_
      clear E a; intro a E
      refine WL_nil ?_
      refine T_n ?_
      refine WP_block ?_
      replace S := S.re1 (l' := (setI (l0.take k)).take ((setI (l0.take k)).length - 0) ++ [(l0[k]?.getD 0)] ++ (setI (l0.take k)).drop ((setI (l0.take k)).length - 0)) (by first | (rw [show l0[k]? = some _ by assumption]; simp; done) | (have e1 := bub_at (s := setI (l0.take k)) (x := (l0[k]?.getD 0)) (i := (setI (l0.take k)).length - j) (by omega) (by assumption); have e2 := bub_left (s := setI (l0.take k)) (x := (l0[k]?.getD 0)) (i := (setI (l0.take k)).length - j) (by omega) (by omega) (by assumption); rw [show (setI (l0.take k)).length - (j + 1) = (setI (l0.take k)).length - j - 1 by omega, bubble_step (by omega) (by omega) e2, e1]))
      refine WP_loop (γ := Nat) (fun (j : Nat) a w => ∃ (M_14 : Hp), Hp.le M_2 M_14 ∧ St w M_14 (OwnI 3 v_13 ((setI (l0.take k)).take ((setI (l0.take k)).length - j) ++ [(l0[k]?.getD 0)] ++ (setI (l0.take k)).drop ((setI (l0.take k)).length - j)) :: H) ∧ Env a 57 [] [(3, v_13), (6, .int .i64 (((setI (l0.take k)).length - j : Nat) : Int)), (7, v0), (8, .int .i64 (((l0).length : Nat) : Int)), (9, .int .i64 ((k : Nat) : Int))] ∧ (j ≤ (setI (l0.take k)).length) ∧ (∀ y ∈ (setI (l0.take k)).drop ((setI (l0.take k)).length - j), (l0[k]?.getD 0) < y)) (fun j => (setI (l0.take k)).length - j) 0 ⟨M_2, Hp.le.refl _, S, E.keep ⟨rfl, look_nat (i := ((setI (l0.take k)) ++ [x_4]).length - 1) rfl (by (first | (simp; done) | (simp; omega))), rfl, rfl, rfl, trivial⟩, (by omega), (by simp)⟩ ?_
      try clear E
      try clear S
      try clear a
      try clear w
      rintro j a w ⟨M_14, hM_14, S, E, hL1_0, hL1_1⟩
      replace h0 := h0.le hM_14
      refine WP_seq ?_
      refine WP_seq ?_
      replace S := S.mono_heap (w' := World.drew _) rfl
      obtain ⟨p_15, hp_15⟩ := S.ptrC (k := (setI (l0.take k)).length - j) (by first | omega | (simp; done) | (simp; omega) | (simp_all; omega))
      obtain ⟨x_16, hx_16⟩ : ∃ x, ((setI (l0.take k)).take ((setI (l0.take k)).length - j) ++ [(l0[k]?.getD 0)] ++ (setI (l0.take k)).drop ((setI (l0.take k)).length - j))[(setI (l0.take k)).length - j]? = some x := ⟨_, List.getElem?_eq_getElem (by first | omega | (simp; done) | (simp; omega) | (simp_all; omega))⟩
      obtain ⟨p_17, hp_17⟩ := S.ptrC (k := (setI (l0.take k)).length - j - 1) (by first | omega | (simp; done) | (simp; omega) | (simp_all; omega))
      obtain ⟨x_18, hx_18⟩ : ∃ x, ((setI (l0.take k)).take ((setI (l0.take k)).length - j) ++ [(l0[k]?.getD 0)] ++ (setI (l0.take k)).drop ((setI (l0.take k)).length - j))[(setI (l0.take k)).length - j - 1]? = some x := ⟨_, List.getElem?_eq_getElem (by first | omega | (simp; done) | (simp; omega) | (simp_all; omega))⟩
      refine WP_drawn (C := fun x w => agree M_14 w ∧ (x = 6 → w.cell? p_15 = some (.int .i64 x_16)) ∧ (x = 11 → w.cell? p_17 = some (.int .i64 x_18))) (bf := (fun i => [])) [0, 1, 2, 3, 4, 5, 6, 7, 8, 9, 10, 11, 12, 13] [0, 1, 2, 3, 4, 5, 6, 7, 8, 9, 10, 11, 12, 13] Tryz.mixed (by kernel_rfl) (fun x hq => ⟨S.imm, fun _ => S.cellI hp_15 hx_16, fun _ => S.cellI hp_17 hx_18⟩) ?_
      refine D_v E rfl rfl rfl (fun w hC => (R_move E rfl)) ?_
      clear E a; intro a E
      refine D_v E rfl rfl rfl (fun w hC => (R_gtr E rfl rfl)) ?_
      clear E a; intro a E
      refine D_v E rfl rfl rfl (fun w hC => (R_move E rfl)) ?_
      clear E a; intro a E
      refine split_bool (decide (0 < (((setI (l0.take k)).length - j : Nat) : Int))) (fun hc_19 => ?_) (fun hc_19 => ?_)
      · replace E := E.val (t := 24) rfl hc_19
        replace E := E.val (t := 25) rfl hc_19
        replace hc_19 := of_decide_eq_true hc_19
        refine D_vyes E rfl rfl rfl rfl rfl (fun w hC => (R_move E rfl)) ?_
        clear E a; intro a E
        refine D_vyes E rfl rfl rfl rfl rfl (fun w hC => (R_move E rfl)) ?_
        clear E a; intro a E
        refine D_vyes E rfl rfl rfl rfl rfl (fun w hC => (R_idx E rfl rfl T22 hp_15 rfl)) ?_
        clear E a; intro a E
        refine D_vyes E rfl rfl rfl rfl rfl (fun w hC => (R_load E rfl (Tryz.isAgg3 _) (hC.2.1 rfl))) ?_
        clear E a; intro a E
        refine D_vyes E rfl rfl rfl rfl rfl (fun w hC => (R_move E rfl)) ?_
        clear E a; intro a E
        refine D_vyes E rfl rfl rfl rfl rfl (fun w hC => (R_move E rfl)) ?_
        clear E a; intro a E
        refine D_vyes E rfl rfl rfl rfl rfl (fun w hC => (R_subx (m := (((setI (l0.take k)).length - j - 1 : Nat) : Int)) E rfl rfl (by first | omega | (simp; done) | (simp; omega)) (by first | omega | (simp; done) | (simp; omega)))) ?_
        clear E a; intro a E
        refine D_vyes E rfl rfl rfl rfl rfl (fun w hC => (R_idx E rfl rfl T22 hp_17 rfl)) ?_
        clear E a; intro a E
        refine D_vyes E rfl rfl rfl rfl rfl (fun w hC => (R_load E rfl (Tryz.isAgg3 _) (hC.2.2 rfl))) ?_
        clear E a; intro a E
        refine D_vyes E rfl rfl rfl rfl rfl (fun w hC => (R_lss E rfl rfl)) ?_
        clear E a; intro a E
        refine D_v E rfl rfl rfl (fun w hC => (R_pickT E rfl rfl)) ?_
        clear E a; intro a E
        refine D_end (NoP_n ?_)
        refine T_n ?_
        refine WP_cond E rfl (fun hc_20 => ?_) (fun hc_20 => ?_)
        · replace hc_20 := of_decide_eq_true hc_20
          refine WP_skip ?_
          refine T_n ?_
          refine WP_seq ?_
          refine WP_block ?_
          replace S := S.mono_heap (w' := World.drew _) rfl
          refine WP_drawn (C := fun x w => agree M_14 w ∧ (x = 9 → w.cell? p_17 = some (.int .i64 x_18)) ∧ (x = 13 → w.cell? p_15 = some (.int .i64 x_16))) (bf := (fun i => bif Nat.beq i 15 then [9, 13] else bif Nat.beq i 17 then [9, 13] else [])) [0, 1, 2, 3, 4, 5, 6, 7, 8, 9, 10, 11, 12, 13, 14, 16] [0, 1, 2, 3, 4, 5, 6, 7, 8, 9, 10, 11, 12, 13, 14, 15, 16, 17] Tryz.mixed (by kernel_rfl) (fun x hq => ⟨S.imm, fun _ => S.cellI hp_17 hx_18, fun _ => S.cellI hp_15 hx_16⟩) ?_
          refine D_v E rfl rfl rfl (fun w hC => (R_move E rfl)) ?_
          clear E a; intro a E
          refine D_v E rfl rfl rfl (fun w hC => (R_move E rfl)) ?_
          clear E a; intro a E
          refine D_v E rfl rfl rfl (fun w hC => (R_move E rfl)) ?_
          clear E a; intro a E
          refine D_v E rfl rfl rfl (fun w hC => (R_move E rfl)) ?_
          clear E a; intro a E
          refine D_v E rfl rfl rfl (fun w hC => (R_subx (m := (((setI (l0.take k)).length - j - 1 : Nat) : Int)) E rfl rfl (by omega) (by omega))) ?_
          clear E a; intro a E
          refine D_v E rfl rfl rfl (fun w hC => (R_move E rfl)) ?_
          clear E a; intro a E
          refine D_v E rfl rfl rfl (fun w hC => (R_move E rfl)) ?_
          clear E a; intro a E
          refine D_v E rfl rfl rfl (fun w hC => (R_subx (m := (((setI (l0.take k)).length - j - 1 : Nat) : Int)) E rfl rfl (by omega) (by omega))) ?_
          clear E a; intro a E
          refine D_v E rfl rfl rfl (fun w hC => (R_idx E rfl rfl T22 hp_17 rfl)) ?_
          clear E a; intro a E
          refine D_v E rfl rfl rfl (fun w hC => (R_load E rfl (Tryz.isAgg3 _) (hC.2.1 rfl))) ?_
          clear E a; intro a E
          refine D_v E rfl rfl rfl (fun w hC => (R_move E rfl)) ?_
          clear E a; intro a E
          refine D_v E rfl rfl rfl (fun w hC => (R_move E rfl)) ?_
          clear E a; intro a E
          refine D_v E rfl rfl rfl (fun w hC => (R_idx E rfl rfl T22 hp_15 rfl)) ?_
          clear E a; intro a E
          refine D_v E rfl rfl rfl (fun w hC => (R_load E rfl (Tryz.isAgg3 _) (hC.2.2 rfl))) ?_
          clear E a; intro a E
          refine D_v E rfl rfl rfl (fun w hC => (R_idx E rfl rfl T22 hp_15 rfl)) ?_
          clear E a; intro a E
          refine D_x rfl rfl rfl (X_storeI E S rfl rfl (Tryz.sizeOf3 _) hp_15 ?_)
          clear E a S; rintro a w E S
          refine ⟨fun x hq hb => ⟨(agree_le (Hp.le.refl _) S.imm), (fun e => by subst e; exact absurd hb (by decide)), (fun e => by subst e; exact absurd hb (by decide))⟩, ?_⟩
          refine D_v E rfl rfl rfl (fun w hC => (R_idx E rfl rfl T22 hp_17 rfl)) ?_
          clear E a; intro a E
          refine D_x rfl rfl rfl (X_storeI E S rfl rfl (Tryz.sizeOf3 _) hp_17 ?_)
          clear E a S; rintro a w E S
          refine ⟨fun x hq hb => ⟨(agree_le (Hp.le.refl _) S.imm), (fun e => by subst e; exact absurd hb (by decide)), (fun e => by subst e; exact absurd hb (by decide))⟩, ?_⟩
          refine D_end (NoP_n ?_)
          refine B_n ?_
          refine T_n ?_
          refine WP_region ?_
          refine S_v E rfl (R_move E rfl) rfl ?_
          clear E a; intro a E
          refine S_v E rfl (R_subx (m := (((setI (l0.take k)).length - j - 1 : Nat) : Int)) E rfl rfl (by first | omega | (simp; done) | (simp; omega)) (by first | omega | (simp; done) | (simp; omega))) rfl ?_
          clear E a; intro a E
          refine S_v E rfl (R_assign E rfl) rfl ?_
          clear E a; intro a E
          refine WL_nil ?_
          refine T_n ?_
          replace S := S.re1 (l' := (setI (l0.take k)).take ((setI (l0.take k)).length - (j + 1)) ++ [(l0[k]?.getD 0)] ++ (setI (l0.take k)).drop ((setI (l0.take k)).length - (j + 1))) (by first | (rw [show l0[k]? = some _ by assumption]; simp; done) | (have e1 := bub_at (s := setI (l0.take k)) (x := (l0[k]?.getD 0)) (i := (setI (l0.take k)).length - j) (by omega) (by assumption); have e2 := bub_left (s := setI (l0.take k)) (x := (l0[k]?.getD 0)) (i := (setI (l0.take k)).length - j) (by omega) (by omega) (by assumption); rw [show (setI (l0.take k)).length - (j + 1) = (setI (l0.take k)).length - j - 1 by omega, bubble_step (by omega) (by omega) e2, e1]))
          exact ⟨j + 1, ⟨M_14, hM_14, S, E.keep ⟨rfl, look_nat (i := (setI (l0.take k)).length - j - 1) rfl (by (omega)), rfl, rfl, rfl, trivial⟩, (by omega), (by rw [show (setI (l0.take k)).length - (j + 1) = (setI (l0.take k)).length - j - 1 by omega]; exact drop_bub hL1_1 (by omega) (by omega) (bub_left (s := setI (l0.take k)) (x := (l0[k]?.getD 0)) (i := (setI (l0.take k)).length - j) (by omega) (by omega) (by assumption)) (by rw [← bub_at (s := setI (l0.take k)) (x := (l0[k]?.getD 0)) (i := (setI (l0.take k)).length - j) (by omega) (by assumption)]; assumption))⟩, by omega⟩
        · replace hc_20 := of_decide_eq_false hc_20
          refine WP_exit ?_
          refine T_x ?_
          refine T_x ?_
          refine B_x ?_
          refine B_n ?_
          refine T_n ?_
          refine WP_region ?_
          refine S_v E rfl (R_addx (m := ((k + 1 : Nat) : Int)) E rfl rfl (by omega) (by omega)) rfl ?_
          clear E a; intro a E
          refine S_v E rfl (R_move E rfl) rfl ?_
          clear E a; intro a E
          refine WL_nil ?_
          refine T_n ?_
          replace S := S.re1 (l' := setI (l0.take (k + 1))) (by first | (simp [setI]; done) | (rw [setI_take' (by assumption), insU_same (by rw [show l0[k]? = some _ by assumption]; assumption)]; done) | (rw [setI_take' (by assumption)]; exact set_bubble hsu.1 (by rw [show l0[k]? = some _ by assumption]; assumption) hL1_1 (by omega) (by first | (left; omega) | (right; exact ⟨_, bub_left (s := setI (l0.take k)) (x := (l0[k]?.getD 0)) (i := (setI (l0.take k)).length - j) (by omega) (by omega) (by assumption), by rw [← bub_at (s := setI (l0.take k)) (x := (l0[k]?.getD 0)) (i := (setI (l0.take k)).length - j) (by omega) (by assumption)]; assumption⟩))))
          exact ⟨k + 1, ⟨M_14, _, (hM_2.trans hM_14), S, E.keep ⟨rfl, rfl, rfl, rfl, trivial⟩, by ((try clear S); (try clear E); first | assumption | omega | rfl | (simp; done) | (simp_all; done) | (simp [List.take_add_one, *]; done) | grind [List.take_add_one])⟩, by omega⟩
      · replace E := E.val (t := 24) rfl hc_19
        replace E := E.val (t := 25) rfl hc_19
        replace hc_19 := of_decide_eq_false hc_19
        refine D_no E rfl rfl rfl rfl rfl fun a E => ?_
        refine D_no E rfl rfl rfl rfl rfl fun a E => ?_
        refine D_no E rfl rfl rfl rfl rfl fun a E => ?_
        refine D_no E rfl rfl rfl rfl rfl fun a E => ?_
        refine D_no E rfl rfl rfl rfl rfl fun a E => ?_
        refine D_no E rfl rfl rfl rfl rfl fun a E => ?_
        refine D_no E rfl rfl rfl rfl rfl fun a E => ?_
        refine D_no E rfl rfl rfl rfl rfl fun a E => ?_
        refine D_no E rfl rfl rfl rfl rfl fun a E => ?_
        refine D_no E rfl rfl rfl rfl rfl fun a E => ?_
        refine D_v E rfl rfl rfl (fun w hC => (R_pickF E rfl rfl)) ?_
        clear E a; intro a E
        refine D_end (NoP_n ?_)
        refine T_n ?_
        refine WP_condF E rfl rfl ?_
        refine WP_exit ?_
        refine T_x ?_
        refine T_x ?_
        refine B_x ?_
        refine B_n ?_
        refine T_n ?_
        refine WP_region ?_
        refine S_v E rfl (R_addx (m := ((k + 1 : Nat) : Int)) E rfl rfl (by omega) (by omega)) rfl ?_
        clear E a; intro a E
        refine S_v E rfl (R_move E rfl) rfl ?_
        clear E a; intro a E
        refine WL_nil ?_
        refine T_n ?_
        replace S := S.re1 (l' := setI (l0.take (k + 1))) (by first | (simp [setI]; done) | (rw [setI_take' (by assumption), insU_same (by rw [show l0[k]? = some _ by assumption]; assumption)]; done) | (rw [setI_take' (by assumption)]; exact set_bubble hsu.1 (by rw [show l0[k]? = some _ by assumption]; assumption) hL1_1 (by omega) (by first | (left; omega) | (right; exact ⟨_, bub_left (s := setI (l0.take k)) (x := (l0[k]?.getD 0)) (i := (setI (l0.take k)).length - j) (by omega) (by omega) (by assumption), by rw [← bub_at (s := setI (l0.take k)) (x := (l0[k]?.getD 0)) (i := (setI (l0.take k)).length - j) (by omega) (by assumption)]; assumption⟩))))
        exact ⟨k + 1, ⟨M_14, _, (hM_2.trans hM_14), S, E.keep ⟨rfl, rfl, rfl, rfl, trivial⟩, by ((try clear S); (try clear E); first | assumption | omega | rfl | (simp; done) | (simp_all; done) | (simp [List.take_add_one, *]; done) | grind [List.take_add_one])⟩, by omega⟩
  · replace hc_3 := of_decide_eq_false hc_3
    refine WP_exit ?_
    refine T_x ?_
    refine T_x ?_
    refine B_x ?_
    refine T_n ?_
    refine WP_seq ?_
    refine WP_region ?_
    refine S_v E rfl (R_move E rfl) rfl ?_
    clear E a; intro a E
    refine S_v E rfl (R_assign E rfl) rfl ?_
    clear E a; intro a E
    refine WL_nil ?_
    refine T_n ?_
    refine WP_ret ?_
    have S0 := S; clear S
    obtain ⟨M_21, hM_21, hz_22, S⟩ := S0.freezeI (by (first | omega | (simp; omega) | (simp; done) | (simp_all; omega) | grind))
    clear S0
    replace h0 := h0.le hM_21
    exact F_ret1 E Tryz.results9 rfl ⟨_, rfl, M_21, (hM_2.trans hM_21), (by rw [show (setI l0) = (setI (l0.take k)) from by (rw [List.take_of_length_le (by omega)])]; exact hz_22), S⟩

set_option maxRecDepth 100000 in
set_option maxHeartbeats 4000000 in
theorem laws_eq {M : Hp} {v0 v1 : Value} {l0 l1 : List Int} (h0 : RdI M v0 l0) (h1 : RdI M v1 l1) :
    Pu Tryz.prog (.func (.func 10) #[] #[]) M [v0, v1] (fun r M' => r = .bool (decide (l0 = l1))) := by
  refine Pu_enter Tryz.func10 rfl Tryz.ntmps10 rfl Tryz.call10 ?_
  intro a w M1 H hM1 S E
  replace h0 := h0.le hM1
  replace h1 := h1.le hM1
  have b0 := h0.bound
  have b1 := h1.bound
  refine WP_seq ?_
  refine WP_region ?_
  refine S_v E rfl (R_assign E rfl) rfl ?_
  clear E a; intro a E
  refine WL_nil ?_
  refine T_n ?_
  refine WP_seq ?_
  refine WP_seq ?_
  refine WP_region ?_
  refine S_v E rfl (R_move E rfl) rfl ?_
  clear E a; intro a E
  refine S_v E rfl (R_lenV E rfl T22 h0.len) rfl ?_
  clear E a; intro a E
  refine S_v E rfl (R_move E rfl) rfl ?_
  clear E a; intro a E
  refine S_v E rfl (R_lenV E rfl T22 h1.len) rfl ?_
  clear E a; intro a E
  refine S_v E rfl (R_neq E rfl rfl) rfl ?_
  clear E a; intro a E
  refine WL_nil ?_
  refine T_n ?_
  refine WP_cond E rfl (fun hc_1 => ?_) (fun hc_1 => ?_)
  · replace hc_1 := of_decide_eq_true hc_1
    refine WP_seq ?_
    refine WP_region ?_
    refine S_v E rfl (R_assign E rfl) rfl ?_
    clear E a; intro a E
    refine WL_nil ?_
    refine T_n ?_
    refine WP_ret ?_
    refine T_r ?_
    exact F_ret1 E Tryz.results10 rfl ⟨_, rfl, M1, (Hp.le.refl _), (bF (by ((try clear S); (try clear E); first | assumption | omega | rfl | (simp; done) | (simp_all; done) | (simp [List.take_add_one, *]; done) | grind [List.take_add_one]))), S⟩
  · replace hc_1 := of_decide_eq_false hc_1
    refine WP_skip ?_
    refine T_n ?_
    refine WP_seq ?_
    refine WP_seq ?_
    refine WP_region ?_
    refine S_v E rfl (R_move E rfl) rfl ?_
    clear E a; intro a E
    refine S_v E rfl (R_lenV E rfl T22 h0.len) rfl ?_
    clear E a; intro a E
    refine S_v E rfl (R_move E rfl) rfl ?_
    clear E a; intro a E
    refine WL_nil ?_
    refine T_n ?_
    refine WP_block ?_
    refine WP_loop (γ := Nat) (fun (k : Nat) a w => ∃ (M_2 : Hp), Hp.le M1 M_2 ∧ St w M_2 (H) ∧ Env a 26 [] [(0, v0), (1, v1), (12, .int .i64 (((l0).length : Nat) : Int)), (13, .int .i64 ((k : Nat) : Int))] ∧ (k ≤ (l0).length) ∧ (l0.length = l1.length) ∧ (l0.take k = l1.take k)) (fun k => ((l0).length) - k) 0 ⟨M1, Hp.le.refl _, S, E.keep ⟨rfl, rfl, rfl, rfl, trivial⟩, by ((try clear S); (try clear E); first | assumption | omega | rfl | (simp; done) | (simp_all; done) | (simp [List.take_add_one, *]; done) | grind [List.take_add_one]), by ((try clear S); (try clear E); first | assumption | omega | rfl | (simp; done) | (simp_all; done) | (simp [List.take_add_one, *]; done) | grind [List.take_add_one]), by ((try clear S); (try clear E); first | assumption | omega | rfl | (simp; done) | (simp_all; done) | (simp [List.take_add_one, *]; done) | grind [List.take_add_one])⟩ ?_
    try clear E
    try clear S
    try clear a
    try clear w
    rintro k a w ⟨M_2, hM_2, S, E, hL0_0, hL0_1, hL0_2⟩
    replace h0 := h0.le hM_2
    replace h1 := h1.le hM_2
    refine WP_seq ?_
    refine WP_region ?_
    refine S_v E rfl (R_lss E rfl rfl) rfl ?_
    clear E a; intro a E
    refine WL_nil ?_
    refine T_n ?_
    refine WP_seq ?_
    refine WP_cond E rfl (fun hc_3 => ?_) (fun hc_3 => ?_)
    · replace hc_3 := of_decide_eq_true hc_3
      refine WP_skip ?_
      refine T_n ?_
      refine WP_seq ?_
      refine WP_block ?_
      refine WP_seq ?_
      refine WP_region ?_
      refine S_v E rfl (R_move E rfl) rfl ?_
      clear E a; intro a E
      refine S_v E rfl (R_assign E rfl) rfl ?_
      clear E a; intro a E
      refine WL_nil ?_
      refine T_n ?_
      refine WP_seq ?_
      replace S := S.mono_heap (w' := World.drew _) rfl
      refine WP_drawn (C := fun x w => agree M_2 w) (bf := (fun i => [])) [0, 1, 2, 3, 4, 5, 6, 7, 8] [0, 1, 2, 3, 4, 5, 6, 7, 8] Tryz.mixed (by kernel_rfl) (fun x hq => S.imm) ?_
      refine D_v E rfl rfl rfl (fun w hC => (R_move E rfl)) ?_
      clear E a; intro a E
      refine D_v E rfl rfl rfl (fun w hC => (R_move E rfl)) ?_
      clear E a; intro a E
      obtain ⟨x_4, hx_4⟩ : ∃ x, (l0)[k]? = some x := ⟨_, List.getElem?_eq_getElem (by first | omega | (simp; done) | (simp; omega) | (simp_all; omega))⟩
      obtain ⟨p_5, hp_5, qp_5⟩ := h0.at hx_4
      refine D_v E rfl rfl rfl (fun w hC => (R_idx E rfl rfl T22 hp_5 rfl)) ?_
      clear E a; intro a E
      refine D_v E rfl rfl rfl (fun w hC => (R_loadM E rfl Tryz.isAgg3 hC qp_5)) ?_
      clear E a; intro a E
      refine D_v E rfl rfl rfl (fun w hC => (R_move E rfl)) ?_
      clear E a; intro a E
      refine D_v E rfl rfl rfl (fun w hC => (R_move E rfl)) ?_
      clear E a; intro a E
      obtain ⟨x_6, hx_6⟩ : ∃ x, (l1)[k]? = some x := ⟨_, List.getElem?_eq_getElem (by first | omega | (simp; done) | (simp; omega) | (simp_all; omega))⟩
      obtain ⟨p_7, hp_7, qp_7⟩ := h1.at hx_6
      refine D_v E rfl rfl rfl (fun w hC => (R_idx E rfl rfl T22 hp_7 rfl)) ?_
      clear E a; intro a E
      refine D_v E rfl rfl rfl (fun w hC => (R_loadM E rfl Tryz.isAgg3 hC qp_7)) ?_
      clear E a; intro a E
      refine D_v E rfl rfl rfl (fun w hC => (R_neq E rfl rfl)) ?_
      clear E a; intro a E
      refine D_end (NoP_n ?_)
      refine T_n ?_
      refine WP_cond E rfl (fun hc_8 => ?_) (fun hc_8 => ?_)
      · replace hc_8 := of_decide_eq_true hc_8
        refine WP_seq ?_
        refine WP_region ?_
        refine S_v E rfl (R_assign E rfl) rfl ?_
        clear E a; intro a E
        refine WL_nil ?_
        refine T_n ?_
        refine WP_ret ?_
        refine B_r ?_
        refine T_r ?_
        refine T_r ?_
        refine B_r ?_
        refine T_r ?_
        exact F_ret1 E Tryz.results10 rfl ⟨_, rfl, M_2, hM_2, (bF (by ((try clear S); (try clear E); first | assumption | omega | rfl | (simp; done) | (simp_all; done) | (simp [List.take_add_one, *]; done) | grind [List.take_add_one]))), S⟩
      · replace hc_8 := of_decide_eq_false hc_8
        refine WP_skip ?_
        refine B_n ?_
        refine T_n ?_
        refine WP_region ?_
        refine S_v E rfl (R_addx (m := ((k + 1 : Nat) : Int)) E rfl rfl (by omega) (by omega)) rfl ?_
        clear E a; intro a E
        refine S_v E rfl (R_move E rfl) rfl ?_
        clear E a; intro a E
        refine WL_nil ?_
        refine T_n ?_
        exact ⟨k + 1, ⟨M_2, hM_2, S, E.keep ⟨rfl, rfl, rfl, rfl, trivial⟩, by ((try clear S); (try clear E); first | assumption | omega | rfl | (simp; done) | (simp_all; done) | (simp [List.take_add_one, *]; done) | grind [List.take_add_one]), by ((try clear S); (try clear E); first | assumption | omega | rfl | (simp; done) | (simp_all; done) | (simp [List.take_add_one, *]; done) | grind [List.take_add_one]), by ((try clear S); (try clear E); first | assumption | omega | rfl | (simp; done) | (simp_all; done) | (simp [List.take_add_one, *]; done) | grind [List.take_add_one])⟩, by omega⟩
    · replace hc_3 := of_decide_eq_false hc_3
      refine WP_exit ?_
      refine T_x ?_
      refine T_x ?_
      refine B_x ?_
      refine T_n ?_
      refine WP_seq ?_
      refine WP_region ?_
      refine S_v E rfl (R_assign E rfl) rfl ?_
      clear E a; intro a E
      refine WL_nil ?_
      refine T_n ?_
      refine WP_ret ?_
      exact F_ret1 E Tryz.results10 rfl ⟨_, rfl, M_2, hM_2, (bT (by ((try clear S); (try clear E); first | assumption | omega | rfl | (simp; done) | (simp_all; done) | (simp [List.take_add_one, *]; done) | grind [List.take_add_one]))), S⟩

set_option maxRecDepth 100000 in
set_option maxHeartbeats 4000000 in
theorem lo_UniqValues {M : Hp} {v0 : Value} {l0 : List (List (Int × Int))} (h0 : RdS 1 RMp M v0 l0) (hb : l0.flatten.length ≤ 1000000000000) :
    Pu Tryz.prog (.func (.func 69) #[] #[]) M [v0] (fun r M' => ∃ p_, RdI M' r p_ ∧ p_.Nodup ∧ ∀ z, z ∈ p_ ↔ z ∈ ((l0).flatten).map Prod.snd) := by
  refine Pu_enter Tryz.func69 rfl Tryz.ntmps69 rfl Tryz.call69 ?_
  intro a w M1 H hM1 S E
  replace h0 := h0.le RMp_mono hM1
  have b0 := h0.bound
  refine WP_seq ?_
  refine WP_region ?_
  refine S_v E rfl (R_assign E rfl) rfl ?_
  clear E a; intro a E
  refine WL_nil ?_
  refine T_n ?_
  refine WP_seq ?_
  refine WP_region ?_
  refine S_v E rfl (R_assign E rfl) rfl ?_
  clear E a; intro a E
  refine WL_nil ?_
  refine T_n ?_
  refine WP_seq ?_
  refine WP_seq ?_
  refine WP_region ?_
  refine S_v E rfl (R_move E rfl) rfl ?_
  clear E a; intro a E
  refine S_v E rfl (R_lenV E rfl T70 h0.len) rfl ?_
  clear E a; intro a E
  refine S_v E rfl (R_move E rfl) rfl ?_
  clear E a; intro a E
  refine WL_nil ?_
  refine T_n ?_
  refine WP_block ?_
  refine WP_loop (γ := Nat) (fun (k : Nat) a w => ∃ (M_1 : Hp), Hp.le M1 M_1 ∧ St w M_1 (H) ∧ Env a 58 [] [(0, v0), (3, .int .i64 ((((l0.take k).flatten).length : Nat) : Int)), (13, .int .i64 (((l0).length : Nat) : Int)), (14, .int .i64 ((k : Nat) : Int))] ∧ (k ≤ (l0).length)) (fun k => ((l0).length) - k) 0 ⟨M1, Hp.le.refl _, S, E.keep ⟨rfl, look_nat (i := 0) rfl (by (simp)), rfl, rfl, trivial⟩, by ((try clear S); (try clear E); first | assumption | omega | rfl | (simp; done) | (simp_all; done) | (simp [List.take_add_one, *]; done) | grind [List.take_add_one])⟩ ?_
  try clear E
  try clear S
  try clear a
  try clear w
  rintro k a w ⟨M_1, hM_1, S, E, hL0_0⟩
  replace h0 := h0.le RMp_mono hM_1
  have hfl := fl_le l0 k
  refine WP_seq ?_
  refine WP_region ?_
  refine S_v E rfl (R_lss E rfl rfl) rfl ?_
  clear E a; intro a E
  refine WL_nil ?_
  refine T_n ?_
  refine WP_seq ?_
  refine WP_cond E rfl (fun hc_2 => ?_) (fun hc_2 => ?_)
  · replace hc_2 := of_decide_eq_true hc_2
    refine WP_skip ?_
    refine T_n ?_
    refine WP_seq ?_
    refine WP_block ?_
    refine WP_seq ?_
    refine WP_region ?_
    refine S_v E rfl (R_move E rfl) rfl ?_
    clear E a; intro a E
    refine S_v E rfl (R_assign E rfl) rfl ?_
    clear E a; intro a E
    refine WL_nil ?_
    refine T_n ?_
    refine WP_region ?_
    refine S_v E rfl (R_move E rfl) rfl ?_
    clear E a; intro a E
    refine S_v E rfl (R_move E rfl) rfl ?_
    clear E a; intro a E
    refine S_v E rfl (R_move E rfl) rfl ?_
    clear E a; intro a E
    obtain ⟨x_3, hx_3⟩ : ∃ x, (l0)[k]? = some x := ⟨_, List.getElem?_eq_getElem (by first | omega | (simp; done) | (simp; omega) | (simp_all; omega))⟩
    obtain ⟨p_4, u_5, hp_4, qp_4, hu_5⟩ := RdMp.at h0 hx_3
    refine S_v E rfl (R_idx E rfl rfl T70 hp_4 rfl) rfl ?_
    clear E a; intro a E
    refine S_v E rfl (R_loadM E rfl Tryz.isAgg63 S.imm qp_4) rfl ?_
    clear E a; intro a E
    refine S_v E rfl ((R_lenF S.imm hu_5 E MT63 rfl).trans (by rw [encE_len])) rfl ?_
    clear E a; intro a E
    refine S_v E rfl (R_addx (m := ((((l0.take k).flatten).length + (x_3).length : Nat) : Int)) E rfl rfl (by (have h9 := fl_lt (by assumption); omega)) (by (have h9 := fl_lt (by assumption); omega))) rfl ?_
    clear E a; intro a E
    refine S_v E rfl (R_assign E rfl) rfl ?_
    clear E a; intro a E
    refine WL_nil ?_
    refine B_n ?_
    refine T_n ?_
    refine WP_region ?_
    refine S_v E rfl (R_addx (m := ((k + 1 : Nat) : Int)) E rfl rfl (by (have h9 := fl_lt (by assumption); omega)) (by (have h9 := fl_lt (by assumption); omega))) rfl ?_
    clear E a; intro a E
    refine S_v E rfl (R_move E rfl) rfl ?_
    clear E a; intro a E
    refine WL_nil ?_
    refine T_n ?_
    exact ⟨k + 1, ⟨M_1, hM_1, S, E.keep ⟨rfl, look_nat (i := ((l0.take k).flatten).length + (x_3).length) rfl (by (rw [fl_succ (by assumption), List.length_append])), rfl, rfl, trivial⟩, by ((try clear S); (try clear E); first | assumption | omega | rfl | (simp; done) | (simp_all; done) | (simp [List.take_add_one, *]; done) | grind [List.take_add_one])⟩, by omega⟩
  · replace hc_2 := of_decide_eq_false hc_2
    refine WP_exit ?_
    refine T_x ?_
    refine T_x ?_
    refine B_x ?_
    refine T_n ?_
    refine WP_seq ?_
    refine WP_region ?_
    refine S_v E rfl (R_move E rfl) rfl ?_
    clear E a; intro a E
    refine S_x (X_makeMapR E S rfl MT67 rfl ?_)
    clear E a S; rintro a w b_6 E S
    replace S : St w M_1 (OwnS b_6 ([] : List Int) :: _) := S
    refine S_v E rfl (R_assign E rfl) rfl ?_
    clear E a; intro a E
    refine WL_nil ?_
    refine T_n ?_
    refine WP_seq ?_
    refine WP_region ?_
    refine S_x (X_make0 (k := 0) E S rfl rfl rfl T22 rfl (by omega) (by omega) (by omega) ?_)
    clear E a S; rintro a w v_7 E S
    replace S := S.made0
    refine S_v E rfl (R_assign E rfl) rfl ?_
    clear E a; intro a E
    refine WL_nil ?_
    refine T_n ?_
    refine WP_seq ?_
    refine WP_seq ?_
    refine WP_region ?_
    refine S_v E rfl (R_move E rfl) rfl ?_
    clear E a; intro a E
    refine S_v E rfl (R_lenV E rfl T70 h0.len) rfl ?_
    clear E a; intro a E
    refine S_v E rfl (R_move E rfl) rfl ?_
    clear E a; intro a E
    refine WL_nil ?_
    refine T_n ?_
    refine WP_block ?_
    replace S := S.front1
    replace S := S.front1
    replace S := S.front1
    refine WP_loop (γ := Nat) (fun (k : Nat) a w => ∃ (M_8 : Hp) (q5 : ILst) (u6 : Value), Hp.le M_1 M_8 ∧ St w M_8 (OwnS b_6 q5 :: OwnI 3 u6 q5 :: H) ∧ Env a 58 [] [(0, v0), (5, .map (some b_6)), (6, u6), (29, .int .i64 (((l0).length : Nat) : Int)), (30, .int .i64 ((k : Nat) : Int))] ∧ (k ≤ (l0).length) ∧ (q5.Nodup) ∧ (∀ z, z ∈ q5 ↔ z ∈ ((l0.take k).flatten).map Prod.snd)) (fun k => ((l0).length) - k) 0 ⟨M_1, _, _, Hp.le.refl _, S, E.keep ⟨rfl, rfl, rfl, rfl, rfl, trivial⟩, by ((try clear S); (try clear E); first | assumption | omega | rfl | (simp; done) | (simp_all; done) | (simp [List.take_add_one, *]; done) | grind [List.take_add_one]), (by simp), (by simp)⟩ ?_
    try clear E
    try clear S
    try clear a
    try clear w
    rintro k a w ⟨M_8, q5, u6, hM_8, S, E, hL1_0, hL1_1, hL1_2⟩
    replace h0 := h0.le RMp_mono hM_8
    have hu5 := uq_len hL1_1 hL1_2; rw [List.length_map] at hu5; have hu6 := fl_le l0 k
    refine WP_seq ?_
    refine WP_region ?_
    refine S_v E rfl (R_lss E rfl rfl) rfl ?_
    clear E a; intro a E
    refine WL_nil ?_
    refine T_n ?_
    refine WP_seq ?_
    refine WP_cond E rfl (fun hc_9 => ?_) (fun hc_9 => ?_)
    · replace hc_9 := of_decide_eq_true hc_9
      refine WP_skip ?_
      refine T_n ?_
      refine WP_seq ?_
      refine WP_block ?_
      refine WP_seq ?_
      refine WP_region ?_
      refine S_v E rfl (R_move E rfl) rfl ?_
      clear E a; intro a E
      refine S_v E rfl (R_assign E rfl) rfl ?_
      clear E a; intro a E
      refine WL_nil ?_
      refine T_n ?_
      refine WP_seq ?_
      refine WP_region ?_
      refine S_v E rfl (R_move E rfl) rfl ?_
      clear E a; intro a E
      refine S_v E rfl (R_move E rfl) rfl ?_
      clear E a; intro a E
      obtain ⟨x_10, hx_10⟩ : ∃ x, (l0)[k]? = some x := ⟨_, List.getElem?_eq_getElem (by first | omega | (simp; done) | (simp; omega) | (simp_all; omega))⟩
      obtain ⟨p_11, u_12, hp_11, qp_11, hu_12⟩ := RdMp.at h0 hx_10
      refine S_v E rfl (R_idx E rfl rfl T70 hp_11 rfl) rfl ?_
      clear E a; intro a E
      refine S_v E rfl (R_loadM E rfl Tryz.isAgg63 S.imm qp_11) rfl ?_
      clear E a; intro a E
      refine S_x (X_range E S rfl MT63 hu_12 rfl ?_)
      clear E a S; rintro a w i_13 es_14 ck_15 E hf_16 S
      replace S : St w M_8 (ItO u_12 es_14 ck_15 i_13 (encE (Value.int .i64) ([] : List (Int × Int))) :: _) := S
      refine WL_nil ?_
      refine T_n ?_
      refine WP_block ?_
      replace S := S.front2
      replace S := S.front2
      replace S := S.front2
      replace S := S.front2
      replace S := S.re1 (l' := addL q5 (([] : List (Int × Int)).map Prod.snd)) (by first | rfl | (simp [addL]; done) | (rw [addL_mp]; first | exact addL_in (by assumption) | exact addL_out (by assumption) | exact addL_set))
      replace S := S.front2
      replace S := S.reM (L' := (Sl.encS (addL q5 (([] : List (Int × Int)).map Prod.snd)))) (congrArg Sl.encS (show q5 = addL q5 (([] : List (Int × Int)).map Prod.snd) by first | rfl | (simp [addL]; done) | (rw [addL_mp]; first | exact addL_in (by assumption) | exact addL_out (by assumption) | exact addL_set)))
      replace S := S.front2
      refine WP_loop (γ := List (Int × Int)) (fun (p : List (Int × Int)) a w => ∃ (M_17 : Hp) (u6 : Value), Hp.le M_8 M_17 ∧ St w M_17 (ItO u_12 es_14 ck_15 i_13 (encE (Value.int .i64) p) :: OwnS b_6 (addL q5 (p.map Prod.snd)) :: OwnI 3 u6 (addL q5 (p.map Prod.snd)) :: H) ∧ Env a 58 [] [(0, v0), (5, .map (some b_6)), (6, u6), (29, .int .i64 (((l0).length : Nat) : Int)), (30, .int .i64 ((k : Nat) : Int)), (37, .pointer (some ⟨i_13, 0, none⟩))] ∧ ((p.map Prod.fst).Nodup) ∧ (∀ z ∈ p, z ∈ x_10) ∧ (p.length ≤ x_10.length)) (fun p => x_10.length - p.length) ([] : List (Int × Int)) ⟨M_8, _, Hp.le.refl _, S, E.keep ⟨rfl, rfl, rfl, rfl, rfl, rfl, trivial⟩, (by simp), (by simp), (by simp)⟩ ?_
      try clear E
      try clear S
      try clear a
      try clear w
      rintro p a w ⟨M_17, u6, hM_17, S, E, hL2_0, hL2_1, hL2_2⟩
      replace h0 := h0.le RMp_mono hM_17
      replace hu_12 := hu_12.le hM_17
      replace hf_16 := hf_16.le hM_17
      have hu7 := addL_len q5 (p.map Prod.snd); rw [List.length_map] at hu7; have hu8 := fl_lt hx_10
      refine WP_seq ?_
      refine WP_region ?_
      refine S_x (X_nextE (vf := (Value.int .i64)) E S rfl hf_16 rfl (by assumption) (by assumption) ?_ ?_)
      · clear E a S; rintro a E hpm_18 S
        refine S_v E rfl (R_extract E rfl rfl) rfl ?_
        clear E a; intro a E
        refine WL_nil ?_
        refine T_n ?_
        refine WP_seq ?_
        refine WP_condF E rfl rfl ?_
        refine WP_exit ?_
        refine T_x ?_
        refine T_x ?_
        refine B_x ?_
        refine B_n ?_
        refine T_n ?_
        refine WP_region ?_
        refine S_v E rfl (R_addx (m := ((k + 1 : Nat) : Int)) E rfl rfl (by (have h9 := fl_lt (by assumption); omega)) (by (have h9 := fl_lt (by assumption); omega))) rfl ?_
        clear E a; intro a E
        refine S_v E rfl (R_move E rfl) rfl ?_
        clear E a; intro a E
        refine WL_nil ?_
        refine T_n ?_
        replace S := S.drop
        replace S := S.front1
        replace S := S.front1
        exact ⟨k + 1, ⟨M_17, _, _, (hM_8.trans hM_17), S, E.keep ⟨rfl, rfl, rfl, rfl, rfl, trivial⟩, by ((try clear S); (try clear E); first | assumption | omega | rfl | (simp; done) | (simp_all; done) | (simp [List.take_add_one, *]; done) | grind [List.take_add_one]), (by exact addL_nd (by assumption)), (by exact uq_step (by assumption) (by assumption) (by assumption))⟩, by omega⟩
      · clear E a S w; rintro a w k_19 u_21 E hk_20 hk_20n hk_20l S
        refine S_v E rfl (R_extract E rfl rfl) rfl ?_
        clear E a; intro a E
        refine WL_nil ?_
        refine T_n ?_
        refine WP_seq ?_
        refine WP_condT E rfl rfl ?_
        refine WP_skip ?_
        refine T_n ?_
        refine WP_block ?_
        refine WP_seq ?_
        refine WP_region ?_
        refine S_v E rfl (R_entry (k := k_19) (v := .int .i64 u_21) E (by have S1 := S; simp only [encE, List.map_append, List.map_cons, List.map_nil] at S1; exact S1) hf_16 rfl) rfl ?_
        clear E a; intro a E
        refine S_v E rfl (R_extract E rfl rfl) rfl ?_
        clear E a; intro a E
        refine S_v E rfl (R_assign E rfl) rfl ?_
        clear E a; intro a E
        refine WL_nil ?_
        refine T_n ?_
        refine WP_seq ?_
        refine WP_seq ?_
        refine WP_region ?_
        refine S_v E rfl (R_move E rfl) rfl ?_
        clear E a; intro a E
        refine S_v E rfl (R_move E rfl) rfl ?_
        clear E a; intro a E
        replace S := S.front1
        refine S_x (X_lookupS E S rfl MT67 rfl rfl ?_)
        clear E a S; rintro a w E S
        replace S : St w M_17 (OwnS b_6 (addL q5 (p.map Prod.snd)) :: _) := S
        refine S_v E rfl (R_move E rfl) rfl ?_
        clear E a; intro a E
        refine S_v E rfl (R_extract E rfl rfl) rfl ?_
        clear E a; intro a E
        refine S_v E rfl (R_extract E rfl rfl) rfl ?_
        clear E a; intro a E
        refine S_x (X_alloc (cs := #[]) E S rfl Tryz.zeroValue80 rfl ?_)
        clear E a S; rintro a w b_22 E S
        refine S_x0 (X_storeG (us := []) E S rfl rfl (Tryz.sizeOf80 _) rfl (by intro u hu; cases hu) ?_)
        clear E a S; rintro a w E S
        replace S : St w M_17 (blk b_22 (.cells #[] 80) :: _) := S
        have S0 := S; clear S
        obtain ⟨M_23, hM_23, hb_24, S⟩ := S0.freezeB
        clear S0
        replace h0 := h0.le RMp_mono hM_23
        replace hu_12 := hu_12.le hM_23
        replace hf_16 := hf_16.le hM_23
        refine S_v E rfl (R_assign E rfl) rfl ?_
        clear E a; intro a E
        refine WL_nil ?_
        refine T_n ?_
        refine WP_seq ?_
        refine WP_region ?_
        refine S_v E rfl (R_move E rfl) rfl ?_
        clear E a; intro a E
        refine WL_nil ?_
        refine T_n ?_
        refine WP_cond E rfl (fun hc_25 => ?_) (fun hc_25 => ?_)
        · replace hc_25 := of_decide_eq_true hc_25
          refine WP_exit ?_
          refine T_x ?_
          refine B_x ?_
          refine T_n ?_
          replace S := S.front2
          replace S := S.front1
          replace S := S.front2
          replace S := S.front2
          replace S := S.re1 (l' := addL q5 ((p ++ [(k_19, u_21)]).map Prod.snd)) (by first | rfl | (simp [addL]; done) | (rw [addL_mp]; first | exact addL_in (by assumption) | exact addL_out (by assumption) | exact addL_set))
          replace S := S.front2
          replace S := S.reM (L' := (Sl.encS (addL q5 ((p ++ [(k_19, u_21)]).map Prod.snd)))) (congrArg Sl.encS (show addL q5 (p.map Prod.snd) = addL q5 ((p ++ [(k_19, u_21)]).map Prod.snd) by first | rfl | (simp [addL]; done) | (rw [addL_mp]; first | exact addL_in (by assumption) | exact addL_out (by assumption) | exact addL_set)))
          replace S := S.front2
          replace S := S.reIt (p' := (encE (Value.int .i64) (p ++ [(k_19, u_21)]))) (congrArg (encE (Value.int .i64)) (show p ++ [(k_19, u_21)] = (p ++ [(k_19, u_21)]) by first | rfl | (simp [addL]; done) | (rw [addL_mp]; first | exact addL_in (by assumption) | exact addL_out (by assumption) | exact addL_set)))
          exact ⟨(p ++ [(k_19, u_21)]), ⟨M_23, _, (hM_17.trans hM_23), S, E.keep ⟨rfl, rfl, rfl, rfl, rfl, rfl, trivial⟩, (by exact snocNk (by assumption) (by assumption)), (by exact snocSk (by assumption) (by assumption)), (by simp; omega)⟩, (by simp; omega)⟩
        · replace hc_25 := of_decide_eq_false hc_25
          refine WP_skip ?_
          refine T_n ?_
          refine WP_seq ?_
          refine WP_region ?_
          refine S_v E rfl (R_move E rfl) rfl ?_
          clear E a; intro a E
          refine S_v E rfl (R_move E rfl) rfl ?_
          clear E a; intro a E
          refine S_v E rfl (R_build (u := .agg #[]) (vs := []) E rfl (fun w => FB80__  w)) rfl ?_
          clear E a; intro a E
          refine S_x0 (X_updateS E S MT67 rfl rfl rfl ?_)
          clear E a S; rintro a w E S
          refine WL_nil ?_
          refine T_n ?_
          refine WP_region ?_
          refine S_v E rfl (R_move E rfl) rfl ?_
          clear E a; intro a E
          refine S_v E rfl (R_move E rfl) rfl ?_
          clear E a; intro a E
          refine S_x (X_buildI (ys := [u_21]) E S rfl T22 rfl rfl rfl ?_)
          clear E a S; rintro a w v_26 E S
          replace S := S.front3
          replace S := S.front1
          refine S_x (X_appendB (xs := addL q5 (p.map Prod.snd)) (ys := [u_21]) E S rfl rfl rfl T22 (by (simp only [List.length_cons, List.length_nil] at *; omega)) ?_)
          clear E a S; rintro a w v_27 E S
          refine S_v E rfl (R_assign E rfl) rfl ?_
          clear E a; intro a E
          refine WL_nil ?_
          refine B_n ?_
          refine T_n ?_
          replace S := S.front1
          replace S := S.front2
          replace S := S.front2
          replace S := S.re1 (l' := addL q5 ((p ++ [(k_19, u_21)]).map Prod.snd)) (by first | rfl | (simp [addL]; done) | (rw [addL_mp]; first | exact addL_in (by assumption) | exact addL_out (by assumption) | exact addL_set))
          replace S := S.front2
          replace S := S.reM (L' := (Sl.encS (addL q5 ((p ++ [(k_19, u_21)]).map Prod.snd)))) (congrArg Sl.encS (show addS (addL q5 (p.map Prod.snd)) u_21 = addL q5 ((p ++ [(k_19, u_21)]).map Prod.snd) by first | rfl | (simp [addL]; done) | (rw [addL_mp]; first | exact addL_in (by assumption) | exact addL_out (by assumption) | exact addL_set)))
          replace S := S.front2
          replace S := S.reIt (p' := (encE (Value.int .i64) (p ++ [(k_19, u_21)]))) (congrArg (encE (Value.int .i64)) (show p ++ [(k_19, u_21)] = (p ++ [(k_19, u_21)]) by first | rfl | (simp [addL]; done) | (rw [addL_mp]; first | exact addL_in (by assumption) | exact addL_out (by assumption) | exact addL_set)))
          exact ⟨(p ++ [(k_19, u_21)]), ⟨M_23, _, (hM_17.trans hM_23), S, E.keep ⟨rfl, rfl, rfl, rfl, rfl, rfl, trivial⟩, (by exact snocNk (by assumption) (by assumption)), (by exact snocSk (by assumption) (by assumption)), (by simp; omega)⟩, (by simp; omega)⟩
    · replace hc_9 := of_decide_eq_false hc_9
      refine WP_exit ?_
      refine T_x ?_
      refine T_x ?_
      refine B_x ?_
      refine T_n ?_
      refine WP_seq ?_
      refine WP_region ?_
      refine S_v E rfl (R_move E rfl) rfl ?_
      clear E a; intro a E
      refine S_v E rfl (R_assign E rfl) rfl ?_
      clear E a; intro a E
      refine WL_nil ?_
      refine T_n ?_
      refine WP_ret ?_
      replace S := S.front1
      have S0 := S; clear S
      obtain ⟨M_28, hM_28, hz_29, S⟩ := S0.freezeI (by (first | omega | (have hu5 := uq_len (by assumption) (by assumption); rw [List.length_map] at hu5; have hu6 := fl_le l0 k; omega)))
      clear S0
      replace h0 := h0.le RMp_mono hM_28
      exact F_ret1 E Tryz.results69 rfl ⟨_, rfl, M_28, (hM_1.trans (hM_8.trans hM_28)), ⟨_, hz_29, by (rw [← List.take_of_length_le (l := l0) (i := k) (by omega)]; exact ⟨by assumption, by assumption⟩)⟩, S.drop⟩

set_option maxRecDepth 100000 in
set_option maxHeartbeats 4000000 in
theorem impl_UniqValues {M : Hp} {v0 : Value} {l0 : List (List (Int × Int))} (h0 : RdS 1 (RSl 2 RP2) M v0 l0) (hb : l0.flatten.length ≤ 1000000000000) (hbl : l0.length ≤ 1000000000000) :
    Pu Tryz.prog (.func (.func 35) #[] #[]) M [v0] (fun r M' => RdI M' r (setI (valsM l0))) := by
  refine Pu_enter Tryz.func35 rfl Tryz.ntmps35 rfl Tryz.call35 ?_
  intro a w M1 H hM1 S E
  replace h0 := h0.le (RSl_mono RP2_mono) hM1
  have b0 := h0.bound
  refine WP_seq ?_
  refine WP_region ?_
  refine S_v E rfl (R_assign E rfl) rfl ?_
  clear E a; intro a E
  refine WL_nil ?_
  refine T_n ?_
  refine WP_seq ?_
  refine WP_region ?_
  refine S_v E rfl (R_assign E rfl) rfl ?_
  clear E a; intro a E
  refine WL_nil ?_
  refine T_n ?_
  refine WP_seq ?_
  refine WP_seq ?_
  refine WP_region ?_
  refine S_v E rfl (R_move E rfl) rfl ?_
  clear E a; intro a E
  refine S_v E rfl (R_lenV E rfl T41 h0.len) rfl ?_
  clear E a; intro a E
  refine S_v E rfl (R_move E rfl) rfl ?_
  clear E a; intro a E
  refine WL_nil ?_
  refine T_n ?_
  refine WP_block ?_
  replace S : St w M1 (OwnC 63 1 (.slice none 0 0) ([] : List (List (Int × Int))).length [] :: _) := S.ownNil
  have hr_2 : RowsR RMp 1 M1 ([] : List (List (Int × Int))) [] := RowsR.nil
  have hre : ([] : List (List (Int × Int))) = (l0.take 0).map mkE := by first | (simp; done) | (rw [tk_snoc (by assumption), List.map_append]; rfl)
  replace S := S.reR hre
  replace hr_2 := hr_2.eq hre
  clear hre
  refine WP_loop (γ := Nat) (fun (k : Nat) a w => ∃ (M_3 : Hp) (u3 : Value) (xs3 : List Value), Hp.le M1 M_3 ∧ St w M_3 (OwnC 63 1 u3 ((l0.take k).map mkE).length xs3 :: H) ∧ Env a 21 [] [(3, u3), (6, v0), (7, .int .i64 (((l0).length : Nat) : Int)), (8, .int .i64 ((k : Nat) : Int))] ∧ (k ≤ (l0).length) ∧ RowsR RMp 1 M_3 ((l0.take k).map mkE) xs3) (fun k => ((l0).length) - k) 0 ⟨M1, _, _, Hp.le.refl _, S, E.keep ⟨rfl, rfl, rfl, rfl, trivial⟩, by ((try clear S); (try clear E); first | assumption | omega | rfl | (simp; done) | (simp_all; done) | (simp [List.take_add_one, *]; done) | grind [List.take_add_one]), hr_2⟩ ?_
  try clear E
  try clear S
  try clear a
  try clear w
  rintro k a w ⟨M_3, u3, xs3, hM_3, S, E, hL0_0, hr3⟩
  replace h0 := h0.le (RSl_mono RP2_mono) hM_3
  refine WP_seq ?_
  refine WP_region ?_
  refine S_v E rfl (R_lss E rfl rfl) rfl ?_
  clear E a; intro a E
  refine WL_nil ?_
  refine T_n ?_
  refine WP_seq ?_
  refine WP_cond E rfl (fun hc_4 => ?_) (fun hc_4 => ?_)
  · replace hc_4 := of_decide_eq_true hc_4
    refine WP_skip ?_
    refine T_n ?_
    refine WP_seq ?_
    refine WP_block ?_
    refine WP_seq ?_
    refine WP_region ?_
    obtain ⟨x_5, hx_5⟩ : ∃ x, (l0)[k]? = some x := ⟨_, List.getElem?_eq_getElem (by first | omega | (simp; done) | (simp; omega) | (simp_all; omega))⟩
    obtain ⟨p_6, u_7, hp_6, qp_6, hu_7⟩ := RdPP.at h0 hx_5
    have bu_7 := hu_7.bound
    refine S_v E rfl (R_idx E rfl rfl T41 hp_6 rfl) rfl ?_
    clear E a; intro a E
    refine S_v E rfl (R_loadM E rfl Tryz.isAgg25 S.imm qp_6) rfl ?_
    clear E a; intro a E
    refine S_v E rfl (R_assign E rfl) rfl ?_
    clear E a; intro a E
    refine WL_nil ?_
    refine T_n ?_
    refine WP_region ?_
    refine S_v E rfl (R_move E rfl) rfl ?_
    clear E a; intro a E
    refine S_v E rfl (R_move E rfl) rfl ?_
    clear E a; intro a E
    refine S_x (X_pu E S rfl rfl rfl (impl_mapOf hu_7) (Hp.le.refl _) ?_)
    clear E a S; rintro a v_9 w M_8 hM_8 hv_9 S E
    replace h0 := h0.le (RSl_mono RP2_mono) hM_8
    replace hr3 := hr3.le RMp_mono hM_8
    replace hu_7 := hu_7.le RP2_mono hM_8
    refine S_x (X_buildM (R := RMp) (vs := [v_9]) (xs := [mkE x_5]) RMp_mono E S rfl T70 rfl rfl rfl (by intro u hu; simp only [List.mem_cons, List.not_mem_nil, or_false] at hu; rcases hu with rfl <;> first | exact RdM.one' hv_9) rfl (rowsC (R := RMp) ⟨_, rfl, hv_9⟩ rowsN) ?_)
    clear E a S; rintro a v_10 w M_11 hM_11 hv_10 S E
    replace h0 := h0.le (RSl_mono RP2_mono) hM_11
    replace hr3 := hr3.le RMp_mono hM_11
    replace hu_7 := hu_7.le RP2_mono hM_11
    replace hv_9 := hv_9.le hM_11
    refine S_x (X_appendR (R := RMp) (zs := (l0.take k).map mkE) (ys := [mkE x_5]) E S hr3 rfl rfl rfl T70 hv_10 one_RMp (by first | omega | (simp; done) | (simp; omega) | (simp_all; omega)) (by first | omega | (simp; done) | (simp; omega) | (simp_all; omega)) ?_)
    clear E a S; rintro a w v_12 xs_13 E hr_14 S
    refine S_v E rfl (R_assign E rfl) rfl ?_
    clear E a; intro a E
    refine WL_nil ?_
    refine B_n ?_
    refine T_n ?_
    refine WP_region ?_
    refine S_v E rfl (R_addx (m := ((k + 1 : Nat) : Int)) E rfl rfl (by omega) (by omega)) rfl ?_
    clear E a; intro a E
    refine S_v E rfl (R_move E rfl) rfl ?_
    clear E a; intro a E
    refine WL_nil ?_
    refine T_n ?_
    have hre : ((l0.take k).map mkE) ++ [mkE x_5] = (l0.take (k + 1)).map mkE := by first | (simp; done) | (rw [tk_snoc (by assumption), List.map_append]; rfl)
    replace S := S.reR hre
    replace hr_14 := hr_14.eq hre
    clear hre
    exact ⟨k + 1, ⟨M_11, _, _, (hM_3.trans (hM_8.trans hM_11)), S, E.keep ⟨rfl, rfl, rfl, rfl, trivial⟩, by ((try clear S); (try clear E); first | assumption | omega | rfl | (simp; done) | (simp_all; done) | (simp [List.take_add_one, *]; done) | grind [List.take_add_one]), hr_14⟩, by omega⟩
  · replace hc_4 := of_decide_eq_false hc_4
    refine WP_exit ?_
    refine T_x ?_
    refine T_x ?_
    refine B_x ?_
    refine T_n ?_
    refine WP_seq ?_
    refine WP_region ?_
    refine S_v E rfl (R_move E rfl) rfl ?_
    clear E a; intro a E
    have S0 := S; clear S
    obtain ⟨M_15, hM_15, hz_16, S⟩ := S0.freezeR hr3 RMp_mono (by (first | omega | (simp; omega)))
    clear S0
    replace h0 := h0.le (RSl_mono RP2_mono) hM_15
    refine S_x (X_pu E S rfl rfl rfl (lo_UniqValues hz_16 (by first | omega | exact Nat.le_trans (fl_mk _ _) (by first | omega | (simp; done)) | (simp; omega))) (Hp.le.refl _) ?_)
    clear E a S; rintro a v_18 w M_17 hM_17 ⟨q_19, hv_18, hnq_19, hmq_19⟩ S E
    replace h0 := h0.le (RSl_mono RP2_mono) hM_17
    replace hz_16 := hz_16.le RMp_mono hM_17
    refine S_x (X_pu E S rfl rfl rfl (impl_sorted hv_18 (by first | omega | (simp; done) | (simp; omega) | exact Nat.le_trans (Nat.le_of_eq (List.Perm.length_eq (by assumption))) (by first | exact Nat.le_trans (flt_len _ _ _) (by omega) | (rw [List.length_map]; exact Nat.le_trans (fl_mk _ _) (by omega))) | exact Nat.le_trans (uq_len (by assumption) (by assumption)) (by rw [List.length_map]; exact Nat.le_trans (fl_mk _ _) (by omega)))) (Hp.le.refl _) ?_)
    clear E a S; rintro a v_21 w M_20 hM_20 hv_21 S E
    replace h0 := h0.le (RSl_mono RP2_mono) hM_20
    replace hz_16 := hz_16.le RMp_mono hM_20
    replace hv_18 := hv_18.le hM_20
    refine S_v E rfl (R_assign E rfl) rfl ?_
    clear E a; intro a E
    refine WL_nil ?_
    refine T_n ?_
    refine WP_ret ?_
    exact F_ret1 E Tryz.results35 rfl ⟨_, rfl, M_20, (hM_3.trans (hM_15.trans (hM_17.trans hM_20))), (by rw [show (setI (valsM l0)) = (srtM q_19) from by (exact uq_res (k := k) (by omega) (by assumption) (by assumption))]; exact hv_21), S⟩

set_option maxRecDepth 100000 in
set_option maxHeartbeats 4000000 in
theorem lo_Entries {M : Hp} {m0 : Value} {q0 : List (Int × Int)} (hm0 : RdM M m0 (encE (Value.int .i64) q0)) (hb : q0.length ≤ 1000000000000) :
    Pu Tryz.prog (.func (.func 71) #[] #[]) M [m0] (fun r M' => ∃ p_, RdS 2 RP2 M' r p_ ∧ p_.Perm q0) := by
  refine Pu_enter Tryz.func71 rfl Tryz.ntmps71 rfl Tryz.call71 ?_
  intro a w M1 H hM1 S E
  replace hm0 := hm0.le hM1
  refine WP_seq ?_
  refine WP_region ?_
  refine S_v E rfl (R_assign E rfl) rfl ?_
  clear E a; intro a E
  refine WL_nil ?_
  refine T_n ?_
  refine WP_seq ?_
  refine WP_region ?_
  refine S_v E rfl (R_move E rfl) rfl ?_
  clear E a; intro a E
  refine S_v E rfl ((R_lenF S.imm hm0 E MT63 rfl).trans (by rw [encE_len])) rfl ?_
  clear E a; intro a E
  refine S_x (X_make0 (k := (q0).length) E S rfl rfl rfl T74 rfl (by omega) (by omega) (by omega) ?_)
  clear E a S; rintro a w v_1 E S
  have hr_2 : RowsR RP2 2 M1 ([] : List (Int × Int)) [] := RowsR.nil
  replace S : St w M1 (OwnC 92 2 v_1 ([] : List (Int × Int)).length [] :: _) := S
  refine S_v E rfl (R_assign E rfl) rfl ?_
  clear E a; intro a E
  refine WL_nil ?_
  refine T_n ?_
  refine WP_seq ?_
  refine WP_seq ?_
  refine WP_region ?_
  refine S_v E rfl (R_move E rfl) rfl ?_
  clear E a; intro a E
  refine S_x (X_range E S rfl MT63 hm0 rfl ?_)
  clear E a S; rintro a w i_3 es_4 ck_5 E hf_6 S
  replace S : St w M1 (ItO m0 es_4 ck_5 i_3 (encE (Value.int .i64) ([] : List (Int × Int))) :: _) := S
  refine WL_nil ?_
  refine T_n ?_
  refine WP_block ?_
  replace S := S.front1
  replace S := S.front1
  replace S := S.front1
  have hre : ([] : List (Int × Int)) = [] := by first | rfl | (simp; done) | exact putA_ap2 _ _ _ _
  replace S := S.reR hre
  replace hr_2 := hr_2.eq hre
  clear hre
  replace S := S.front1
  replace S := S.reIt (p' := (encE (Value.int .i64) [])) (congrArg (encE (Value.int .i64)) (show ([] : List (Int × Int)) = [] by first | rfl | (simp; done) | exact putA_ap2 _ _ _ _))
  refine WP_loop (γ := List (Int × Int)) (fun (p : List (Int × Int)) a w => ∃ (M_7 : Hp) (u3 : Value) (xs3 : List Value), Hp.le M1 M_7 ∧ St w M_7 (ItO m0 es_4 ck_5 i_3 (encE (Value.int .i64) p) :: OwnC 92 2 u3 p.length xs3 :: H) ∧ Env a 23 [] [(3, u3), (10, .pointer (some ⟨i_3, 0, none⟩))] ∧ ((p.map Prod.fst).Nodup) ∧ (∀ z ∈ p, z ∈ q0) ∧ (p.length ≤ q0.length) ∧ RowsR RP2 2 M_7 p xs3) (fun p => q0.length - p.length) [] ⟨M1, _, _, Hp.le.refl _, S, E.keep ⟨rfl, rfl, trivial⟩, (by simp), (by simp), (by simp), hr_2⟩ ?_
  try clear E
  try clear S
  try clear a
  try clear w
  rintro p a w ⟨M_7, u3, xs3, hM_7, S, E, hL0_0, hL0_1, hL0_2, hr3⟩
  replace hm0 := hm0.le hM_7
  replace hf_6 := hf_6.le hM_7
  refine WP_seq ?_
  refine WP_region ?_
  refine S_x (X_nextE (vf := (Value.int .i64)) E S rfl hf_6 rfl (by assumption) (by assumption) ?_ ?_)
  · clear E a S; rintro a E hpm_8 S
    refine S_v E rfl (R_extract E rfl rfl) rfl ?_
    clear E a; intro a E
    refine WL_nil ?_
    refine T_n ?_
    refine WP_seq ?_
    refine WP_condF E rfl rfl ?_
    refine WP_exit ?_
    refine T_x ?_
    refine T_x ?_
    refine B_x ?_
    refine T_n ?_
    refine WP_seq ?_
    refine WP_region ?_
    refine S_v E rfl (R_move E rfl) rfl ?_
    clear E a; intro a E
    refine S_v E rfl (R_assign E rfl) rfl ?_
    clear E a; intro a E
    refine WL_nil ?_
    refine T_n ?_
    refine WP_ret ?_
    replace S := S.front1
    have S0 := S; clear S
    obtain ⟨M_9, hM_9, hz_10, S⟩ := S0.freezeR hr3 RP2_mono (by (first | omega | (simp; omega)))
    clear S0
    replace hm0 := hm0.le hM_9
    replace hf_6 := hf_6.le hM_9
    exact F_ret1 E Tryz.results71 rfl ⟨_, rfl, M_9, (hM_7.trans hM_9), ⟨_, hz_10, by (first | assumption | exact List.Perm.symm (by assumption))⟩, S.drop⟩
  · clear E a S w; rintro a w k_11 u_13 E hk_12 hk_12n hk_12l S
    refine S_v E rfl (R_extract E rfl rfl) rfl ?_
    clear E a; intro a E
    refine WL_nil ?_
    refine T_n ?_
    refine WP_seq ?_
    refine WP_condT E rfl rfl ?_
    refine WP_skip ?_
    refine T_n ?_
    refine WP_block ?_
    refine WP_seq ?_
    refine WP_region ?_
    refine S_v E rfl (R_entry (k := k_11) (v := .int .i64 u_13) E (by have S1 := S; simp only [encE, List.map_append, List.map_cons, List.map_nil] at S1; exact S1) hf_6 rfl) rfl ?_
    clear E a; intro a E
    refine S_v E rfl (R_extract E rfl rfl) rfl ?_
    clear E a; intro a E
    refine S_v E rfl (R_extract E rfl rfl) rfl ?_
    clear E a; intro a E
    refine S_v E rfl (R_assign E rfl) rfl ?_
    clear E a; intro a E
    refine S_v E rfl (R_assign E rfl) rfl ?_
    clear E a; intro a E
    refine WL_nil ?_
    refine T_n ?_
    refine WP_region ?_
    refine S_v E rfl (R_move E rfl) rfl ?_
    clear E a; intro a E
    refine S_v E rfl (R_move E rfl) rfl ?_
    clear E a; intro a E
    refine S_v E rfl (R_move E rfl) rfl ?_
    clear E a; intro a E
    refine S_v E rfl (R_build (u := .agg #[.int .i64 k_11, .int .i64 u_13]) (vs := [.int .i64 k_11, .int .i64 u_13]) E rfl (fun w => FB92_0_1_ii k_11 u_13 w)) rfl ?_
    clear E a; intro a E
    refine S_x (X_buildA1 (R := RP2) (cs := [.int .i64 k_11, .int .i64 u_13]) (x0 := (k_11, u_13)) RP2_mono E S rfl T74 rfl rfl rfl rfl ?_)
    clear E a S; rintro a v_14 w M_15 hM_15 hv_14 S E
    replace hm0 := hm0.le hM_15
    replace hf_6 := hf_6.le hM_15
    replace hr3 := hr3.le RP2_mono hM_15
    replace S := S.front1
    refine S_x (X_appendR (R := RP2) (zs := p) (ys := [(k_11, u_13)]) E S hr3 rfl rfl rfl T74 hv_14 one_RP2 (by first | omega | (simp; done) | (simp; omega) | (simp_all; omega)) (by first | omega | (simp; done) | (simp; omega) | (simp_all; omega)) ?_)
    clear E a S; rintro a w v_16 xs_17 E hr_18 S
    refine S_v E rfl (R_assign E rfl) rfl ?_
    clear E a; intro a E
    refine WL_nil ?_
    refine B_n ?_
    refine T_n ?_
    replace S := S.front1
    replace S := S.front1
    have hre : p ++ [(k_11, u_13)] = (p ++ [(k_11, u_13)]) := by first | rfl | (simp; done) | exact putA_ap2 _ _ _ _
    replace S := S.reR hre
    replace hr_18 := hr_18.eq hre
    clear hre
    replace S := S.front1
    replace S := S.reIt (p' := (encE (Value.int .i64) (p ++ [(k_11, u_13)]))) (congrArg (encE (Value.int .i64)) (show p ++ [(k_11, u_13)] = (p ++ [(k_11, u_13)]) by first | rfl | (simp; done) | exact putA_ap2 _ _ _ _))
    exact ⟨(p ++ [(k_11, u_13)]), ⟨M_15, _, _, (hM_7.trans hM_15), S, E.keep ⟨rfl, rfl, trivial⟩, (by exact snocNk (by assumption) (by assumption)), (by exact snocSk (by assumption) (by assumption)), (by simp; omega), hr_18⟩, (by simp; omega)⟩

set_option maxRecDepth 100000 in
set_option maxHeartbeats 4000000 in
theorem lo_FromEntries {M : Hp} {v0 : Value} {l0 : List (Int × Int)} (h0 : RdS 2 RP2 M v0 l0) :
    Pu Tryz.prog (.func (.func 70) #[] #[]) M [v0] (fun r M' => RdM M' r (encE (Value.int .i64) (mkE l0))) := by
  refine Pu_enter Tryz.func70 rfl Tryz.ntmps70 rfl Tryz.call70 ?_
  intro a w M1 H hM1 S E
  replace h0 := h0.le RP2_mono hM1
  have b0 := h0.bound
  refine WP_seq ?_
  refine WP_region ?_
  refine S_v E rfl (R_assign E rfl) rfl ?_
  clear E a; intro a E
  refine WL_nil ?_
  refine T_n ?_
  refine WP_seq ?_
  refine WP_region ?_
  refine S_v E rfl (R_move E rfl) rfl ?_
  clear E a; intro a E
  refine S_v E rfl (R_lenV E rfl T74 h0.len) rfl ?_
  clear E a; intro a E
  refine S_x (X_makeMapR E S rfl MT63 rfl ?_)
  clear E a S; rintro a w b_1 E S
  replace S : St w M1 (OwnE (Value.int .i64) b_1 ([] : List (Int × Int)) :: _) := S
  refine S_v E rfl (R_assign E rfl) rfl ?_
  clear E a; intro a E
  refine WL_nil ?_
  refine T_n ?_
  refine WP_seq ?_
  refine WP_seq ?_
  refine WP_region ?_
  refine S_v E rfl (R_move E rfl) rfl ?_
  clear E a; intro a E
  refine S_v E rfl (R_lenV E rfl T74 h0.len) rfl ?_
  clear E a; intro a E
  refine S_v E rfl (R_move E rfl) rfl ?_
  clear E a; intro a E
  refine WL_nil ?_
  refine T_n ?_
  refine WP_block ?_
  replace S := S.reM (L' := (encE (Value.int .i64) (mkE (l0.take 0)))) (congrArg (encE (Value.int .i64)) (show ([] : List (Int × Int)) = mkE (l0.take 0) by first | rfl | (simp [mkE]; done) | (rw [tk_snoc (by assumption), mkE_app]; done)))
  refine WP_loop (γ := Nat) (fun (k : Nat) a w => ∃ (M_2 : Hp), Hp.le M1 M_2 ∧ St w M_2 (OwnE (Value.int .i64) b_1 (mkE (l0.take k)) :: H) ∧ Env a 26 [] [(0, v0), (3, .map (some b_1)), (9, .int .i64 (((l0).length : Nat) : Int)), (10, .int .i64 ((k : Nat) : Int))] ∧ (k ≤ (l0).length)) (fun k => ((l0).length) - k) 0 ⟨M1, Hp.le.refl _, S, E.keep ⟨rfl, rfl, rfl, rfl, trivial⟩, by ((try clear S); (try clear E); first | assumption | omega | rfl | (simp; done) | (simp_all; done) | (simp [List.take_add_one, *]; done) | grind [List.take_add_one])⟩ ?_
  try clear E
  try clear S
  try clear a
  try clear w
  rintro k a w ⟨M_2, hM_2, S, E, hL0_0⟩
  replace h0 := h0.le RP2_mono hM_2
  refine WP_seq ?_
  refine WP_region ?_
  refine S_v E rfl (R_lss E rfl rfl) rfl ?_
  clear E a; intro a E
  refine WL_nil ?_
  refine T_n ?_
  refine WP_seq ?_
  refine WP_cond E rfl (fun hc_3 => ?_) (fun hc_3 => ?_)
  · replace hc_3 := of_decide_eq_true hc_3
    refine WP_skip ?_
    refine T_n ?_
    refine WP_seq ?_
    refine WP_block ?_
    refine WP_seq ?_
    refine WP_region ?_
    refine S_v E rfl (R_move E rfl) rfl ?_
    clear E a; intro a E
    refine S_v E rfl (R_assign E rfl) rfl ?_
    clear E a; intro a E
    refine WL_nil ?_
    refine T_n ?_
    replace S := S.mono_heap (w' := World.drew _) rfl
    refine WP_drawn (C := fun x w => agree M_2 w) (bf := (fun i => [])) [0, 1, 2, 3, 4, 5, 6, 7, 8, 9, 10] [0, 1, 2, 3, 4, 5, 6, 7, 8, 9, 10, 11] Tryz.mixed (by kernel_rfl) (fun x hq => S.imm) ?_
    refine D_v E rfl rfl rfl (fun w hC => (R_move E rfl)) ?_
    clear E a; intro a E
    refine D_v E rfl rfl rfl (fun w hC => (R_move E rfl)) ?_
    clear E a; intro a E
    refine D_v E rfl rfl rfl (fun w hC => (R_move E rfl)) ?_
    clear E a; intro a E
    obtain ⟨x_4, hx_4⟩ : ∃ x, (l0)[k]? = some x := ⟨_, List.getElem?_eq_getElem (by first | omega | (simp; done) | (simp; omega) | (simp_all; omega))⟩
    obtain ⟨p_5, hp_5, qp_5⟩ := RdP2.at h0 hx_4
    refine D_v E rfl rfl rfl (fun w hC => (R_idx E rfl rfl T74 hp_5 rfl)) ?_
    clear E a; intro a E
    have qf_6 := qp_5 0 _ rfl
    refine D_v E rfl rfl rfl (fun w hC => (R_fieldAddr E rfl (FA92_0 _))) ?_
    clear E a; intro a E
    refine D_v E rfl rfl rfl (fun w hC => (R_loadM E rfl Tryz.isAgg3 hC qf_6)) ?_
    clear E a; intro a E
    refine D_v E rfl rfl rfl (fun w hC => (R_move E rfl)) ?_
    clear E a; intro a E
    refine D_v E rfl rfl rfl (fun w hC => (R_move E rfl)) ?_
    clear E a; intro a E
    obtain ⟨p_7, hp_7, qp_7⟩ := RdP2.at h0 hx_4
    refine D_v E rfl rfl rfl (fun w hC => (R_idx E rfl rfl T74 hp_7 rfl)) ?_
    clear E a; intro a E
    have qf_8 := qp_7 1 _ rfl
    refine D_v E rfl rfl rfl (fun w hC => (R_fieldAddr E rfl (FA92_1 _))) ?_
    clear E a; intro a E
    refine D_v E rfl rfl rfl (fun w hC => (R_loadM E rfl Tryz.isAgg3 hC qf_8)) ?_
    clear E a; intro a E
    refine D_x rfl rfl rfl (X_updateE (vf := (Value.int .i64)) (u := x_4.2) E S MT63 rfl rfl rfl ?_)
    clear E a S; rintro a w E S
    refine ⟨fun x hq hb => (agree_le (Hp.le.refl _) S.imm), ?_⟩
    refine D_end (NoP_n ?_)
    refine B_n ?_
    refine T_n ?_
    refine WP_region ?_
    refine S_v E rfl (R_addx (m := ((k + 1 : Nat) : Int)) E rfl rfl (by omega) (by omega)) rfl ?_
    clear E a; intro a E
    refine S_v E rfl (R_move E rfl) rfl ?_
    clear E a; intro a E
    refine WL_nil ?_
    refine T_n ?_
    replace S := S.reM (L' := (encE (Value.int .i64) (mkE (l0.take (k + 1))))) (congrArg (encE (Value.int .i64)) (show putK (mkE (l0.take k)) x_4.1 x_4.2 = mkE (l0.take (k + 1)) by first | rfl | (simp [mkE]; done) | (rw [tk_snoc (by assumption), mkE_app]; done)))
    exact ⟨k + 1, ⟨M_2, hM_2, S, E.keep ⟨rfl, rfl, rfl, rfl, trivial⟩, by ((try clear S); (try clear E); first | assumption | omega | rfl | (simp; done) | (simp_all; done) | (simp [List.take_add_one, *]; done) | grind [List.take_add_one])⟩, by omega⟩
  · replace hc_3 := of_decide_eq_false hc_3
    refine WP_exit ?_
    refine T_x ?_
    refine T_x ?_
    refine B_x ?_
    refine T_n ?_
    refine WP_seq ?_
    refine WP_region ?_
    refine S_v E rfl (R_move E rfl) rfl ?_
    clear E a; intro a E
    refine S_v E rfl (R_assign E rfl) rfl ?_
    clear E a; intro a E
    refine WL_nil ?_
    refine T_n ?_
    refine WP_ret ?_
    have S0 := S; clear S
    obtain ⟨M_9, hM_9, hm_10, S⟩ := S0.freezeM
    clear S0
    replace h0 := h0.le RP2_mono hM_9
    exact F_ret1 E Tryz.results70 rfl ⟨_, rfl, M_9, (hM_2.trans hM_9), (by rw [show (mkE l0) = (mkE (l0.take k)) from by (rw [List.take_of_length_le (by omega)])]; exact hm_10), S⟩

set_option maxRecDepth 100000 in
set_option maxHeartbeats 4000000 in
def Tryz.gsv6_ren : Go.Shelf.Ren := ⟨fun | 6 => 88 | 10 => 100 | 11 => 101 | 12 => 102 | 13 => 103 | 14 => 104 | 24 => 117 | 25 => 118 | 26 => 119 | 27 => 120 | 28 => 121 | 29 => 122 | 30 => 123 | 31 => 124 | 32 => 125 | 33 => 126 | 34 => 128 | 35 => 129 | 36 => 130 | 37 => 131 | 38 => 132 | 39 => 142 | n => n, fun | 20 => 20 | 26 => 77 | 35 => 101 | 0 => 0 | 37 => 103 | 3 => 3 | 41 => 107 | 44 => 110 | 49 => 115 | 51 => 117 | 4 => 4 | 54 => 120 | 53 => 119 | 58 => 124 | 5 => 5 | 9 => 9 | 60 => 127 | 64 => 131 | 66 => 140 | 67 => 141 | 17 => 17 | 32 => 98 | 33 => 99 | 82 => 161 | 12 => 12 | 75 => 154 | 76 => 155 | 77 => 156 | 78 => 157 | 79 => 158 | 80 => 159 | n => n, fun | n => n⟩
set_option maxRecDepth 100000 in
set_option maxHeartbeats 4000000 in
theorem Tryz.gsv6 : Go.Proofs.LaysGg.n6 Tryz.prog Tryz.gsv6_ren := {
  mixed := by kernel_rfl,
  f6 := Tryz.func88.trans (congrArg some (by kernel_rfl)),
  f10 := Tryz.func100.trans (congrArg some (by kernel_rfl)),
  f11 := Tryz.func101.trans (congrArg some (by kernel_rfl)),
  f12 := Tryz.func102.trans (congrArg some (by kernel_rfl)),
  f13 := Tryz.func103.trans (congrArg some (by kernel_rfl)),
  f14 := Tryz.func104.trans (congrArg some (by kernel_rfl)),
  f24 := Tryz.func117.trans (congrArg some (by kernel_rfl)),
  f25 := Tryz.func118.trans (congrArg some (by kernel_rfl)),
  f26 := Tryz.func119.trans (congrArg some (by kernel_rfl)),
  f27 := Tryz.func120.trans (congrArg some (by kernel_rfl)),
  f28 := Tryz.func121.trans (congrArg some (by kernel_rfl)),
  f29 := Tryz.func122.trans (congrArg some (by kernel_rfl)),
  f30 := Tryz.func123.trans (congrArg some (by kernel_rfl)),
  f31 := Tryz.func124.trans (congrArg some (by kernel_rfl)),
  f32 := Tryz.func125.trans (congrArg some (by kernel_rfl)),
  f33 := Tryz.func126.trans (congrArg some (by kernel_rfl)),
  f34 := Tryz.func128.trans (congrArg some (by kernel_rfl)),
  f35 := Tryz.func129.trans (congrArg some (by kernel_rfl)),
  f36 := Tryz.func130.trans (congrArg some (by kernel_rfl)),
  f37 := Tryz.func131.trans (congrArg some (by kernel_rfl)),
  f38 := Tryz.func132.trans (congrArg some (by kernel_rfl)),
  f39 := Tryz.func142.trans (congrArg some (by kernel_rfl)),
  t0 := Tryz.underlying0,
  a0 := Tryz.isAgg0,
  z0 := Tryz.sizeOf0,
  v0 := Tryz.zeroValue0,
  i0 := by kernel_rfl,
  t3 := Tryz.underlying3,
  a3 := Tryz.isAgg3,
  z3 := Tryz.sizeOf3,
  v3 := Tryz.zeroValue3,
  i3 := by kernel_rfl,
  t4 := Tryz.underlying4,
  a4 := Tryz.isAgg4,
  z4 := Tryz.sizeOf4,
  v4 := Tryz.zeroValue4,
  i4 := by kernel_rfl,
  t5 := Tryz.underlying5,
  a5 := Tryz.isAgg5,
  z5 := Tryz.sizeOf5,
  v5 := Tryz.zeroValue5,
  i5 := by kernel_rfl,
  t9 := Tryz.underlying9,
  a9 := Tryz.isAgg9,
  z9 := Tryz.sizeOf9,
  v9 := Tryz.zeroValue9,
  i9 := by kernel_rfl,
  t12 := Tryz.underlying12,
  a12 := Tryz.isAgg12,
  z12 := Tryz.sizeOf12,
  v12 := Tryz.zeroValue12,
  i12 := by kernel_rfl,
  t17 := Tryz.underlying17,
  a17 := Tryz.isAgg17,
  z17 := Tryz.sizeOf17,
  v17 := Tryz.zeroValue17,
  i17 := by kernel_rfl,
  t20 := Tryz.underlying20,
  a20 := Tryz.isAgg20,
  z20 := Tryz.sizeOf20,
  v20 := Tryz.zeroValue20,
  i20 := by kernel_rfl,
  t26 := Tryz.underlying77,
  a26 := Tryz.isAgg77,
  z26 := Tryz.sizeOf77,
  v26 := Tryz.zeroValue77,
  i26 := by kernel_rfl,
  t32 := Tryz.underlying98,
  a32 := Tryz.isAgg98,
  z32 := Tryz.sizeOf98,
  v32 := Tryz.zeroValue98,
  i32 := by kernel_rfl,
  t33 := Tryz.underlying99,
  a33 := Tryz.isAgg99,
  z33 := Tryz.sizeOf99,
  v33 := Tryz.zeroValue99,
  i33 := by kernel_rfl,
  t35 := Tryz.underlying101,
  a35 := Tryz.isAgg101,
  z35 := Tryz.sizeOf101,
  v35 := Tryz.zeroValue101,
  i35 := by kernel_rfl,
  t37 := Tryz.underlying103,
  a37 := Tryz.isAgg103,
  z37 := Tryz.sizeOf103,
  v37 := Tryz.zeroValue103,
  i37 := by kernel_rfl,
  t41 := Tryz.underlying107,
  a41 := Tryz.isAgg107,
  z41 := Tryz.sizeOf107,
  v41 := Tryz.zeroValue107,
  i41 := by kernel_rfl,
  t44 := Tryz.underlying110,
  a44 := Tryz.isAgg110,
  z44 := Tryz.sizeOf110,
  v44 := Tryz.zeroValue110,
  i44 := by kernel_rfl,
  t49 := Tryz.underlying115,
  a49 := Tryz.isAgg115,
  z49 := Tryz.sizeOf115,
  v49 := Tryz.zeroValue115,
  i49 := by kernel_rfl,
  t51 := Tryz.underlying117,
  a51 := Tryz.isAgg117,
  z51 := Tryz.sizeOf117,
  v51 := Tryz.zeroValue117,
  i51 := by kernel_rfl,
  t53 := Tryz.underlying119,
  a53 := Tryz.isAgg119,
  z53 := Tryz.sizeOf119,
  v53 := Tryz.zeroValue119,
  i53 := by kernel_rfl,
  t54 := Tryz.underlying120,
  a54 := Tryz.isAgg120,
  z54 := Tryz.sizeOf120,
  v54 := Tryz.zeroValue120,
  i54 := by kernel_rfl,
  t58 := Tryz.underlying124,
  a58 := Tryz.isAgg124,
  z58 := Tryz.sizeOf124,
  v58 := Tryz.zeroValue124,
  i58 := by kernel_rfl,
  t60 := Tryz.underlying127,
  a60 := Tryz.isAgg127,
  z60 := Tryz.sizeOf127,
  v60 := Tryz.zeroValue127,
  i60 := by kernel_rfl,
  t64 := Tryz.underlying131,
  a64 := Tryz.isAgg131,
  z64 := Tryz.sizeOf131,
  v64 := Tryz.zeroValue131,
  i64 := by kernel_rfl,
  t66 := Tryz.underlying140,
  a66 := Tryz.isAgg140,
  z66 := Tryz.sizeOf140,
  v66 := Tryz.zeroValue140,
  i66 := by kernel_rfl,
  t67 := Tryz.underlying141,
  a67 := Tryz.isAgg141,
  z67 := Tryz.sizeOf141,
  v67 := Tryz.zeroValue141,
  i67 := by kernel_rfl,
  t75 := Tryz.underlying154,
  a75 := Tryz.isAgg154,
  z75 := Tryz.sizeOf154,
  v75 := Tryz.zeroValue154,
  i75 := by kernel_rfl,
  t76 := Tryz.underlying155,
  a76 := Tryz.isAgg155,
  z76 := Tryz.sizeOf155,
  v76 := Tryz.zeroValue155,
  i76 := by kernel_rfl,
  t77 := Tryz.underlying156,
  a77 := Tryz.isAgg156,
  z77 := Tryz.sizeOf156,
  v77 := Tryz.zeroValue156,
  i77 := by kernel_rfl,
  t78 := Tryz.underlying157,
  a78 := Tryz.isAgg157,
  z78 := Tryz.sizeOf157,
  v78 := Tryz.zeroValue157,
  i78 := by kernel_rfl,
  t79 := Tryz.underlying158,
  a79 := Tryz.isAgg158,
  z79 := Tryz.sizeOf158,
  v79 := Tryz.zeroValue158,
  i79 := by kernel_rfl,
  t80 := Tryz.underlying159,
  a80 := Tryz.isAgg159,
  z80 := Tryz.sizeOf159,
  v80 := Tryz.zeroValue159,
  i80 := by kernel_rfl,
  t82 := Tryz.underlying161,
  a82 := Tryz.isAgg161,
  z82 := Tryz.sizeOf161,
  v82 := Tryz.zeroValue161,
  i82 := by kernel_rfl }

set_option maxRecDepth 100000 in
set_option maxHeartbeats 4000000 in
section
open Go Go.Proofs Go.Shelf Go.RowKit Go.Lib Go.Sort
noncomputable def sort_pairsT : TypeInfo := (Tryz.prog.info? 25).get (by kernel_rfl)
noncomputable def sort_pairsE : TypeInfo := (Tryz.prog.info? 29).get (by kernel_rfl)
set_option maxHeartbeats 2000000 in
theorem sort_pairs_less (Bs blk off c size : Nat) (W : World) (G : Nat → Int) (hs : W.cell? ⟨Bs, 0, none⟩ = some (.slice (some ⟨blk, off, none⟩) size c))
    (hc : ∀ t, t < size → W.cell? ⟨blk, off + t * 2, none⟩ = some (.int .i64 (G t))) (i j : Nat) (hi : i < size) (hj : j < size) (_hsz : size < 4611686018427387904) :
    Calls Tryz.prog 89 #[.int .i64 i, .int .i64 j, .pointer (some ⟨Bs, 0, none⟩)] W fun e w' => e = .returned (.bool (decide (G i < G j))) ∧ ∃ q, w' = W.drewN q := by
  have ci := hc i hi
  have cj := hc j hj
  go_enter Tryz.func89, Tryz.ntmps89
  go_wp2
  go_quiet (fail)
  go_wp2
  go_ret
  exact ⟨rfl, nq, rfl⟩
theorem sort_pairs_sw2 (n : Nat) (h : 2 ≤ n) : Lib.swapperK n sort_pairsE 25 = 9 := by
  have c : (n == 0) = false := by simp; omega
  have d : (n == 1) = false := by simp; omega
  have e : sort_pairsE.hasPointers = false := by kernel_rfl
  have b : sort_pairsE.bytes = 16 := by kernel_rfl
  simp [Lib.swapperK, c, d, e, b]
theorem sort_pairs_sw1 : Lib.swapperK 1 sort_pairsE 25 = 2 := rfl
theorem sort_pairs_sw0 : Lib.swapperK 0 sort_pairsE 25 = 1 := rfl
theorem sort_pairs {Bs : Nat} {M : Hp} {v : Value} {l : List (Int × Int)} {xs : List Value} (hr : RowsR RP2 2 M l xs) (hn : (l.map Prod.fst).Nodup) (hb : l.length ≤ 1000000000000) :
    Sp Tryz.prog (.func (.func 88) #[] #[]) M [.iface 25 v, .func (.func 89) #[] #[.pointer (some ⟨Bs, 0, none⟩)]] [OwnC 29 2 v l.length xs, Go.Sl.blk Bs (.cells #[v] 25)]
      (fun r M' C' => ∃ xs', RowsR RP2 2 M' (srtK Prod.fst l) xs' ∧ C' = [OwnC 29 2 v (srtK Prod.fst l).length xs', Go.Sl.blk Bs (.cells #[v] 25)]) :=
  sortK_sp Tryz.call88 (fun blk off c size W G a b i j c1 c2 c3 => sort_pairs_less Bs blk off c size W G a b i j c1 c2 c3)
    (fun blk c d w h2 hsz hless hH hblk => Any.sort_Slice_cells_sorted Tryz.gsv6 25 29 sort_pairsT sort_pairsE (by kernel_rfl) (by kernel_rfl) (by kernel_rfl) (by kernel_rfl) 25 (fun _ => by kernel_rfl) encK 2 (fun _ => rfl) (by kernel_rfl) (fun _ => by kernel_rfl)
      encK_one ltK swo_ltK 89 _ (enters_of Tryz.func89 (by kernel_rfl) rfl) blk 0 c d h2 hsz 116 (by rw [sort_pairs_sw2 _ h2]; kernel_rfl) false
      (fun args W => run_callFunc_extern Tryz.func116 (by kernel_rfl) (by kernel_rfl) (by kernel_rfl) (e := Extern.ReflectliteSwapper.swap false) (by kernel_rfl) args W) w hless hH hblk)
    (fun p n c w h1 => by
      rcases (show n = 0 ∨ n = 1 by omega) with rfl | rfl
      · exact Any.sort_Slice_tiny Tryz.gsv6 25 29 sort_pairsT sort_pairsE (by kernel_rfl) (by kernel_rfl) (by kernel_rfl) (by kernel_rfl) 25 (fun _ => by kernel_rfl) p 0 c h1 108 (by rw [sort_pairs_sw0]; kernel_rfl) _ _ _ w
      · exact Any.sort_Slice_tiny Tryz.gsv6 25 29 sort_pairsT sort_pairsE (by kernel_rfl) (by kernel_rfl) (by kernel_rfl) (by kernel_rfl) 25 (fun _ => by kernel_rfl) p 1 c h1 109 (by rw [sort_pairs_sw1]; kernel_rfl) _ _ _ w)
    (fun M cs x h => RP2_K h) RP2_mono hr hn hb
end

set_option maxRecDepth 100000 in
set_option maxHeartbeats 4000000 in
theorem impl_pairs {M : Hp} {m0 : Value} {q0 : List (Int × Int)} (hm0 : RdM M m0 (encE (Value.int .i64) q0)) (hb : q0.length ≤ 1000000000000) :
    Pu Tryz.prog (.func (.func 58) #[] #[]) M [m0] (fun r M' => RdS 2 RP2 M' r (srtK Prod.fst q0)) := by
  refine Pu_enter Tryz.func58 rfl Tryz.ntmps58 rfl Tryz.call58 ?_
  intro a w M1 H hM1 S E
  replace hm0 := hm0.le hM1
  have hnq : (q0.map Prod.fst).Nodup := keys_encE (Value.int .i64) q0 ▸ hm0.nodup
  refine WP_seq ?_
  refine WP_region ?_
  refine S_v E rfl (R_assign E rfl) rfl ?_
  clear E a; intro a E
  refine WL_nil ?_
  refine T_n ?_
  refine WP_seq ?_
  refine WP_region ?_
  refine S_x (X_alloc (cs := #[.slice none 0 0]) E S rfl Tryz.zeroValue25 rfl ?_)
  clear E a S; rintro a w b_1 E S
  refine WL_nil ?_
  refine T_n ?_
  refine WP_seq ?_
  refine WP_seq ?_
  refine WP_region ?_
  refine S_v E rfl (R_move E rfl) rfl ?_
  clear E a; intro a E
  refine S_x (X_range E S rfl MT63 hm0 rfl ?_)
  clear E a S; rintro a w i_2 es_3 ck_4 E hf_5 S
  replace S : St w M1 (ItO m0 es_3 ck_4 i_2 (encE (Value.int .i64) ([] : List (Int × Int))) :: _) := S
  refine WL_nil ?_
  refine T_n ?_
  refine WP_block ?_
  replace S : St w M1 (OwnC 29 2 (.slice none 0 0) ([] : List (Int × Int)).length [] :: _) := S.ownNil
  have hr_7 : RowsR RP2 2 M1 ([] : List (Int × Int)) [] := RowsR.nil
  replace S := S.front1
  replace S := S.front1
  have hre : ([] : List (Int × Int)) = [] := by first | rfl | (simp; done)
  replace S := S.reR hre
  replace hr_7 := hr_7.eq hre
  clear hre
  replace S := S.front1
  replace S := S.reIt (p' := (encE (Value.int .i64) [])) (congrArg (encE (Value.int .i64)) (show ([] : List (Int × Int)) = [] by first | rfl | (simp; done)))
  refine WP_loop (γ := List (Int × Int)) (fun (p : List (Int × Int)) a w => ∃ (M_8 : Hp) (u3 : Value) (xs3 : List Value), Hp.le M1 M_8 ∧ St w M_8 (ItO m0 es_3 ck_4 i_2 (encE (Value.int .i64) p) :: OwnC 29 2 u3 p.length xs3 :: blk b_1 (.cells #[u3] 25) :: H) ∧ Env a 24 [] [(3, .pointer (some ⟨b_1, 0, none⟩)), (7, .pointer (some ⟨i_2, 0, none⟩))] ∧ ((p.map Prod.fst).Nodup) ∧ (∀ z ∈ p, z ∈ q0) ∧ (p.length ≤ q0.length) ∧ RowsR RP2 2 M_8 p xs3) (fun p => q0.length - p.length) [] ⟨M1, _, _, Hp.le.refl _, S, E.keep ⟨rfl, rfl, trivial⟩, (by simp), (by simp), (by simp), hr_7⟩ ?_
  try clear E
  try clear S
  try clear a
  try clear w
  rintro p a w ⟨M_8, u3, xs3, hM_8, S, E, hL0_0, hL0_1, hL0_2, hr3⟩
  replace hm0 := hm0.le hM_8
  replace hf_5 := hf_5.le hM_8
  refine WP_seq ?_
  refine WP_region ?_
  refine S_x (X_nextE (vf := (Value.int .i64)) E S rfl hf_5 rfl (by assumption) (by assumption) ?_ ?_)
  · clear E a S; rintro a E hpm_9 S
    refine S_v E rfl (R_extract E rfl rfl) rfl ?_
    clear E a; intro a E
    refine WL_nil ?_
    refine T_n ?_
    refine WP_seq ?_
    refine WP_condF E rfl rfl ?_
    refine WP_exit ?_
    refine T_x ?_
    refine T_x ?_
    refine B_x ?_
    refine T_n ?_
    refine WP_seq ?_
    refine WP_region ?_
    refine S_v E rfl (R_load E rfl (Tryz.isAgg25 _) (cell_blk (S.mem (.tail _ (.tail _ (.head _)))))) rfl ?_
    clear E a; intro a E
    refine S_v E rfl (R_iface E rfl T25.und) rfl ?_
    clear E a; intro a E
    refine S_v E rfl (R_makeFunc E rfl rfl) rfl ?_
    clear E a; intro a E
    replace S := S.front2
    replace S := S.front2
    refine S_x (X_sp (p := [OwnC 29 2 u3 p.length xs3, blk b_1 (.cells #[u3] 25)]) E S rfl rfl rfl (sort_pairs hr3 (by first | assumption | exact keys_perm (by assumption) hnq) (by (first | (rw [srtK_len]; omega) | omega | (simp; omega)))) (Hp.le.refl _) ?_)
    clear E a S; rintro a _ w M_10 _ hM_10 ⟨xs_11, hr_12, rfl⟩ S E
    replace S : St w M_10 (OwnC 29 2 u3 (srtK Prod.fst p).length xs_11 :: blk b_1 (.cells #[u3] 25) :: _) := S
    replace hm0 := hm0.le hM_10
    replace hf_5 := hf_5.le hM_10
    refine WL_nil ?_
    refine T_n ?_
    refine WP_seq ?_
    refine WP_region ?_
    refine S_v E rfl (R_load E rfl (Tryz.isAgg25 _) (cell_blk (S.mem (.tail _ (.head _))))) rfl ?_
    clear E a; intro a E
    refine S_v E rfl (R_assign E rfl) rfl ?_
    clear E a; intro a E
    refine WL_nil ?_
    refine T_n ?_
    refine WP_ret ?_
    have S0 := S; clear S
    obtain ⟨M_13, hM_13, hz_14, S⟩ := S0.freezeR hr_12 RP2_mono (by (first | (rw [srtK_len]; omega) | omega | (simp; omega)))
    clear S0
    replace hm0 := hm0.le hM_13
    replace hf_5 := hf_5.le hM_13
    exact F_ret1 E Tryz.results58 rfl ⟨_, rfl, M_13, (hM_8.trans (hM_10.trans hM_13)), (by rw [show (srtK Prod.fst q0) = (srtK Prod.fst p) from by (first | exact srtK_perm_eq hnq (by assumption) | exact (srtK_perm_eq hnq (by assumption)).symm)]; exact hz_14), S.drop.drop⟩
  · clear E a S w; rintro a w k_15 u_17 E hk_16 hk_16n hk_16l S
    refine S_v E rfl (R_extract E rfl rfl) rfl ?_
    clear E a; intro a E
    refine WL_nil ?_
    refine T_n ?_
    refine WP_seq ?_
    refine WP_condT E rfl rfl ?_
    refine WP_skip ?_
    refine T_n ?_
    refine WP_block ?_
    refine WP_seq ?_
    refine WP_region ?_
    refine S_v E rfl (R_entry (k := k_15) (v := .int .i64 u_17) E (by have S1 := S; simp only [encE, List.map_append, List.map_cons, List.map_nil] at S1; exact S1) hf_5 rfl) rfl ?_
    clear E a; intro a E
    refine S_v E rfl (R_extract E rfl rfl) rfl ?_
    clear E a; intro a E
    refine S_v E rfl (R_extract E rfl rfl) rfl ?_
    clear E a; intro a E
    refine S_v E rfl (R_assign E rfl) rfl ?_
    clear E a; intro a E
    refine S_v E rfl (R_assign E rfl) rfl ?_
    clear E a; intro a E
    refine WL_nil ?_
    refine T_n ?_
    refine WP_region ?_
    refine S_v E rfl (R_load E rfl (Tryz.isAgg25 _) (cell_blk (S.mem (.tail _ (.tail _ (.head _)))))) rfl ?_
    clear E a; intro a E
    refine S_v E rfl (R_move E rfl) rfl ?_
    clear E a; intro a E
    refine S_v E rfl (R_move E rfl) rfl ?_
    clear E a; intro a E
    refine S_v E rfl (R_build (u := .agg #[.int .i64 k_15, .int .i64 u_17]) (vs := [.int .i64 k_15, .int .i64 u_17]) E rfl (fun w => FB29_0_1_ii k_15 u_17 w)) rfl ?_
    clear E a; intro a E
    refine S_x (X_buildA1 (R := RP2) (cs := [.int .i64 k_15, .int .i64 u_17]) (x0 := (k_15, u_17)) RP2_mono E S rfl T25 rfl rfl rfl rfl ?_)
    clear E a S; rintro a v_18 w M_19 hM_19 hv_18 S E
    replace hm0 := hm0.le hM_19
    replace hf_5 := hf_5.le hM_19
    replace hr3 := hr3.le RP2_mono hM_19
    replace S := S.front1
    refine S_x (X_appendR (R := RP2) (zs := p) (ys := [(k_15, u_17)]) E S hr3 rfl rfl rfl T25 hv_18 one_RP2 (by first | omega | (simp; done) | (simp; omega) | (simp_all; omega)) (by first | omega | (simp; done) | (simp; omega) | (simp_all; omega)) ?_)
    clear E a S; rintro a w v_20 xs_21 E hr_22 S
    have ho_23 := S.oneC
    replace S := S.front2
    refine S_x0 (X_store E S rfl rfl (Tryz.sizeOf25 _) ho_23 ?_)
    clear E a S; rintro a w E S
    refine WL_nil ?_
    refine B_n ?_
    refine T_n ?_
    replace S := S.front1
    replace S := S.front2
    replace S := S.front1
    have hre : p ++ [(k_15, u_17)] = (p ++ [(k_15, u_17)]) := by first | rfl | (simp; done)
    replace S := S.reR hre
    replace hr_22 := hr_22.eq hre
    clear hre
    replace S := S.front1
    replace S := S.reIt (p' := (encE (Value.int .i64) (p ++ [(k_15, u_17)]))) (congrArg (encE (Value.int .i64)) (show p ++ [(k_15, u_17)] = (p ++ [(k_15, u_17)]) by first | rfl | (simp; done)))
    exact ⟨(p ++ [(k_15, u_17)]), ⟨M_19, _, _, (hM_8.trans hM_19), S, E.keep ⟨rfl, rfl, trivial⟩, (by exact snocNk (by assumption) (by assumption)), (by exact snocSk (by assumption) (by assumption)), (by simp; omega), hr_22⟩, (by simp; omega)⟩

set_option maxRecDepth 100000 in
set_option maxHeartbeats 4000000 in
theorem impl_Entries {M : Hp} {v0 : Value} {l0 : List (Int × Int)} (h0 : RdS 2 RP2 M v0 l0) (hb : l0.length ≤ 1000000000000) :
    Pu Tryz.prog (.func (.func 36) #[] #[]) M [v0] (fun r M' => RdS 2 RP2 M' r (entE l0)) := by
  refine Pu_enter Tryz.func36 rfl Tryz.ntmps36 rfl Tryz.call36 ?_
  intro a w M1 H hM1 S E
  replace h0 := h0.le RP2_mono hM1
  have b0 := h0.bound
  refine WP_seq ?_
  refine WP_region ?_
  refine S_v E rfl (R_assign E rfl) rfl ?_
  clear E a; intro a E
  refine WL_nil ?_
  refine T_n ?_
  refine WP_seq ?_
  refine WP_region ?_
  refine S_v E rfl (R_move E rfl) rfl ?_
  clear E a; intro a E
  refine S_x (X_pu E S rfl rfl rfl (impl_mapOf h0) (Hp.le.refl _) ?_)
  clear E a S; rintro a v_2 w M_1 hM_1 hv_2 S E
  replace h0 := h0.le RP2_mono hM_1
  refine S_x (X_pu E S rfl rfl rfl (lo_Entries hv_2 (by first | omega | exact Nat.le_trans (mkE_len _) (by omega))) (Hp.le.refl _) ?_)
  clear E a S; rintro a v_4 w M_3 hM_3 ⟨q_5, hv_4, hpq_5⟩ S E
  replace h0 := h0.le RP2_mono hM_3
  replace hv_2 := hv_2.le hM_3
  refine S_x (X_pu E S rfl rfl rfl (lo_FromEntries hv_4) (Hp.le.refl _) ?_)
  clear E a S; rintro a v_7 w M_6 hM_6 hv_7 S E
  replace h0 := h0.le RP2_mono hM_6
  replace hv_2 := hv_2.le hM_6
  replace hv_4 := hv_4.le RP2_mono hM_6
  refine S_x (X_pu E S rfl rfl rfl (impl_pairs hv_7 (by first | omega | (exact bigE _ l0 (by first | (rw [ixm_len]; exact Nat.le_refl _) | exact kpix_len _ _ _ | (rw [List.length_map]; exact Nat.le_refl _)) (by omega)) | exact Nat.le_trans (mkE_len _) (by omega) | (exact Nat.le_trans (lk_len (by assumption) (by assumption)) (by first | omega | exact Nat.le_trans (fl_mk _ _) (by omega))) | exact Nat.le_trans (mk_perm_len (by assumption)) (by omega) | exact Nat.le_trans (Nat.le_trans (lk_len (by assumption) (by assumption)) (mkl_len _ _)) (by omega) | exact Nat.le_trans (Nat.le_trans (lk_len (by assumption) (by assumption)) (List.length_filter_le _ _)) (Nat.le_trans (mkE_len _) (by omega)) | (first | omega | (simp; omega) | (simp; done) | (simp_all; omega) | grind))) (Hp.le.refl _) ?_)
  clear E a S; rintro a v_9 w M_8 hM_8 hv_9 S E
  replace h0 := h0.le RP2_mono hM_8
  replace hv_2 := hv_2.le hM_8
  replace hv_4 := hv_4.le RP2_mono hM_8
  replace hv_7 := hv_7.le hM_8
  refine S_v E rfl (R_assign E rfl) rfl ?_
  clear E a; intro a E
  refine WL_nil ?_
  refine T_n ?_
  refine WP_ret ?_
  exact F_ret1 E Tryz.results36 rfl ⟨_, rfl, M_8, (hM_1.trans (hM_3.trans (hM_6.trans hM_8))), (by rw [show (entE l0) = (srtK Prod.fst (mkE q_5)) from by (exact ent_back (by assumption))]; exact hv_9), S⟩

set_option maxRecDepth 100000 in
set_option maxHeartbeats 4000000 in
theorem lo_PickBy {M : Hp} {m0 : Value} {q0 : List (Int × Int)} (hm0 : RdM M m0 (encE (Value.int .i64) q0)){v1 : Value} {f1 : Int → Int → Bool} (h1 : PF2B Tryz.prog v1 M f1) :
    Pu Tryz.prog (.func (.func 72) #[] #[]) M [m0, v1] (fun r M' => ∃ q_, RdM M' r (encE (Value.int .i64) q_) ∧ lkE q_ = lkE ((q0).filter (fun e : Int × Int => f1 e.1 e.2))) := by
  refine Pu_enter Tryz.func72 rfl Tryz.ntmps72 rfl Tryz.call72 ?_
  intro a w M1 H hM1 S E
  replace hm0 := hm0.le hM1
  replace h1 := h1.le hM1
  have hnq : (q0.map Prod.fst).Nodup := keys_encE (Value.int .i64) q0 ▸ hm0.nodup
  refine WP_seq ?_
  refine WP_region ?_
  refine S_v E rfl (R_assign E rfl) rfl ?_
  clear E a; intro a E
  refine WL_nil ?_
  refine T_n ?_
  refine WP_seq ?_
  refine WP_region ?_
  refine S_x (X_makeMap E S rfl ?_)
  clear E a S; rintro a w b_1 E S
  replace S : St w M1 (OwnE (Value.int .i64) b_1 ([] : List (Int × Int)) :: _) := S
  refine S_v E rfl (R_assign E rfl) rfl ?_
  clear E a; intro a E
  refine WL_nil ?_
  refine T_n ?_
  refine WP_seq ?_
  refine WP_seq ?_
  refine WP_region ?_
  refine S_v E rfl (R_move E rfl) rfl ?_
  clear E a; intro a E
  refine S_x (X_range E S rfl MT63 hm0 rfl ?_)
  clear E a S; rintro a w i_2 es_3 ck_4 E hf_5 S
  replace S : St w M1 (ItO m0 es_3 ck_4 i_2 (encE (Value.int .i64) ([] : List (Int × Int))) :: _) := S
  refine WL_nil ?_
  refine T_n ?_
  refine WP_block ?_
  replace S := S.front1
  replace S := S.front1
  replace S := S.front1
  replace S := S.reM (L' := (encE (Value.int .i64) (mkE ([].filter (fun e : Int × Int => f1 e.1 e.2))))) (congrArg (encE (Value.int .i64)) (show ([] : List (Int × Int)) = mkE ([].filter (fun e : Int × Int => f1 e.1 e.2)) by first | rfl | (simp [mkE]; done) | exact flm_yes (F := (fun e : Int × Int => f1 e.1 e.2)) (e := (_, _)) (by assumption) | exact flm_no (F := (fun e : Int × Int => f1 e.1 e.2)) (e := (_, _)) (by assumption)))
  replace S := S.front1
  replace S := S.reIt (p' := (encE (Value.int .i64) [])) (congrArg (encE (Value.int .i64)) (show ([] : List (Int × Int)) = [] by first | rfl | (simp [mkE]; done) | exact flm_yes (F := (fun e : Int × Int => f1 e.1 e.2)) (e := (_, _)) (by assumption) | exact flm_no (F := (fun e : Int × Int => f1 e.1 e.2)) (e := (_, _)) (by assumption)))
  refine WP_loop (γ := List (Int × Int)) (fun (p : List (Int × Int)) a w => ∃ (M_6 : Hp), Hp.le M1 M_6 ∧ St w M_6 (ItO m0 es_3 ck_4 i_2 (encE (Value.int .i64) p) :: OwnE (Value.int .i64) b_1 (mkE (p.filter (fun e : Int × Int => f1 e.1 e.2))) :: H) ∧ Env a 24 [] [(1, v1), (5, .map (some b_1)), (10, .pointer (some ⟨i_2, 0, none⟩))] ∧ ((p.map Prod.fst).Nodup) ∧ (∀ z ∈ p, z ∈ q0) ∧ (p.length ≤ q0.length)) (fun p => q0.length - p.length) [] ⟨M1, Hp.le.refl _, S, E.keep ⟨rfl, rfl, rfl, trivial⟩, (by simp), (by simp), (by simp)⟩ ?_
  try clear E
  try clear S
  try clear a
  try clear w
  rintro p a w ⟨M_6, hM_6, S, E, hL0_0, hL0_1, hL0_2⟩
  replace hm0 := hm0.le hM_6
  replace h1 := h1.le hM_6
  replace hf_5 := hf_5.le hM_6
  refine WP_seq ?_
  refine WP_region ?_
  refine S_x (X_nextE (vf := (Value.int .i64)) E S rfl hf_5 rfl (by assumption) (by assumption) ?_ ?_)
  · clear E a S; rintro a E hpm_7 S
    refine S_v E rfl (R_extract E rfl rfl) rfl ?_
    clear E a; intro a E
    refine WL_nil ?_
    refine T_n ?_
    refine WP_seq ?_
    refine WP_condF E rfl rfl ?_
    refine WP_exit ?_
    refine T_x ?_
    refine T_x ?_
    refine B_x ?_
    refine T_n ?_
    refine WP_seq ?_
    refine WP_region ?_
    refine S_v E rfl (R_move E rfl) rfl ?_
    clear E a; intro a E
    refine S_v E rfl (R_assign E rfl) rfl ?_
    clear E a; intro a E
    refine WL_nil ?_
    refine T_n ?_
    refine WP_ret ?_
    replace S := S.front1
    have S0 := S; clear S
    obtain ⟨M_8, hM_8, hm_9, S⟩ := S0.freezeM
    clear S0
    replace hm0 := hm0.le hM_8
    replace h1 := h1.le hM_8
    replace hf_5 := hf_5.le hM_8
    exact F_ret1 E Tryz.results72 rfl ⟨_, rfl, M_8, (hM_6.trans hM_8), ⟨_, hm_9, by (exact flm_lk hnq (by assumption))⟩, S.drop⟩
  · clear E a S w; rintro a w k_10 u_12 E hk_11 hk_11n hk_11l S
    refine S_v E rfl (R_extract E rfl rfl) rfl ?_
    clear E a; intro a E
    refine WL_nil ?_
    refine T_n ?_
    refine WP_seq ?_
    refine WP_condT E rfl rfl ?_
    refine WP_skip ?_
    refine T_n ?_
    refine WP_block ?_
    refine WP_seq ?_
    refine WP_region ?_
    refine S_v E rfl (R_entry (k := k_10) (v := .int .i64 u_12) E (by have S1 := S; simp only [encE, List.map_append, List.map_cons, List.map_nil] at S1; exact S1) hf_5 rfl) rfl ?_
    clear E a; intro a E
    refine S_v E rfl (R_extract E rfl rfl) rfl ?_
    clear E a; intro a E
    refine S_v E rfl (R_extract E rfl rfl) rfl ?_
    clear E a; intro a E
    refine S_v E rfl (R_assign E rfl) rfl ?_
    clear E a; intro a E
    refine S_v E rfl (R_assign E rfl) rfl ?_
    clear E a; intro a E
    refine WL_nil ?_
    refine T_n ?_
    refine WP_seq ?_
    refine WP_region ?_
    refine S_v E rfl (R_move E rfl) rfl ?_
    clear E a; intro a E
    refine S_v E rfl (R_move E rfl) rfl ?_
    clear E a; intro a E
    refine S_v E rfl (R_move E rfl) rfl ?_
    clear E a; intro a E
    refine S_x (X_pu E S rfl rfl rfl (h1.2 k_10 u_12) (Hp.le.refl _) ?_)
    clear E a S; rintro a _ w M_13 hM_13 rfl S E
    replace hm0 := hm0.le hM_13
    replace h1 := h1.le hM_13
    replace hf_5 := hf_5.le hM_13
    refine WL_nil ?_
    refine T_n ?_
    refine WP_cond E rfl (fun hc_14 => ?_) (fun hc_14 => ?_)
    · refine WP_region ?_
      refine S_v E rfl (R_move E rfl) rfl ?_
      clear E a; intro a E
      refine S_v E rfl (R_move E rfl) rfl ?_
      clear E a; intro a E
      refine S_v E rfl (R_move E rfl) rfl ?_
      clear E a; intro a E
      replace S := S.front1
      refine S_x0 (X_updateE (vf := (Value.int .i64)) (u := u_12) E S MT63 rfl rfl rfl ?_)
      clear E a S; rintro a w E S
      refine WL_nil ?_
      refine B_n ?_
      refine T_n ?_
      replace S := S.front1
      replace S := S.front1
      replace S := S.reM (L' := (encE (Value.int .i64) (mkE ((p ++ [(k_10, u_12)]).filter (fun e : Int × Int => f1 e.1 e.2))))) (congrArg (encE (Value.int .i64)) (show putK (mkE (p.filter (fun e : Int × Int => f1 e.1 e.2))) k_10 u_12 = mkE ((p ++ [(k_10, u_12)]).filter (fun e : Int × Int => f1 e.1 e.2)) by first | rfl | (simp [mkE]; done) | exact flm_yes (F := (fun e : Int × Int => f1 e.1 e.2)) (e := (_, _)) (by assumption) | exact flm_no (F := (fun e : Int × Int => f1 e.1 e.2)) (e := (_, _)) (by assumption)))
      replace S := S.front1
      replace S := S.reIt (p' := (encE (Value.int .i64) (p ++ [(k_10, u_12)]))) (congrArg (encE (Value.int .i64)) (show p ++ [(k_10, u_12)] = (p ++ [(k_10, u_12)]) by first | rfl | (simp [mkE]; done) | exact flm_yes (F := (fun e : Int × Int => f1 e.1 e.2)) (e := (_, _)) (by assumption) | exact flm_no (F := (fun e : Int × Int => f1 e.1 e.2)) (e := (_, _)) (by assumption)))
      exact ⟨(p ++ [(k_10, u_12)]), ⟨M_13, (hM_6.trans hM_13), S, E.keep ⟨rfl, rfl, rfl, trivial⟩, (by exact snocNk (by assumption) (by assumption)), (by exact snocSk (by assumption) (by assumption)), (by simp; omega)⟩, (by simp; omega)⟩
    · refine WP_skip ?_
      refine B_n ?_
      refine T_n ?_
      replace S := S.front1
      replace S := S.reM (L' := (encE (Value.int .i64) (mkE ((p ++ [(k_10, u_12)]).filter (fun e : Int × Int => f1 e.1 e.2))))) (congrArg (encE (Value.int .i64)) (show mkE (p.filter (fun e : Int × Int => f1 e.1 e.2)) = mkE ((p ++ [(k_10, u_12)]).filter (fun e : Int × Int => f1 e.1 e.2)) by first | rfl | (simp [mkE]; done) | exact flm_yes (F := (fun e : Int × Int => f1 e.1 e.2)) (e := (_, _)) (by assumption) | exact flm_no (F := (fun e : Int × Int => f1 e.1 e.2)) (e := (_, _)) (by assumption)))
      replace S := S.front1
      replace S := S.reIt (p' := (encE (Value.int .i64) (p ++ [(k_10, u_12)]))) (congrArg (encE (Value.int .i64)) (show p ++ [(k_10, u_12)] = (p ++ [(k_10, u_12)]) by first | rfl | (simp [mkE]; done) | exact flm_yes (F := (fun e : Int × Int => f1 e.1 e.2)) (e := (_, _)) (by assumption) | exact flm_no (F := (fun e : Int × Int => f1 e.1 e.2)) (e := (_, _)) (by assumption)))
      exact ⟨(p ++ [(k_10, u_12)]), ⟨M_13, (hM_6.trans hM_13), S, E.keep ⟨rfl, rfl, rfl, trivial⟩, (by exact snocNk (by assumption) (by assumption)), (by exact snocSk (by assumption) (by assumption)), (by simp; omega)⟩, (by simp; omega)⟩

set_option maxRecDepth 100000 in
set_option maxHeartbeats 4000000 in
theorem impl_mod {M : Hp} {x0 x1 : Int} (hn : x1 ≠ 0) (g1 : -9223372036854775808 ≤ x1 ∧ x1 ≤ 9223372036854775807) :
    Pu Tryz.prog (.func (.func 94) #[] #[]) M [.int .i64 x0, .int .i64 x1] (fun r M' => r = .int .i64 (x0 % x1)) := by
  refine Pu_enter Tryz.func94 rfl Tryz.ntmps94 rfl Tryz.call94 ?_
  intro a w M1 H hM1 S E
  have ht := tmod_emod x0 x1 hn
  refine WP_seq ?_
  refine WP_region ?_
  refine S_v E rfl (R_assign E rfl) rfl ?_
  clear E a; intro a E
  refine WL_nil ?_
  refine T_n ?_
  refine WP_seq ?_
  refine WP_region ?_
  refine S_v E rfl (R_move E rfl) rfl ?_
  clear E a; intro a E
  refine S_v E rfl (R_move E rfl) rfl ?_
  clear E a; intro a E
  refine S_v E rfl (R_rem E rfl rfl (by first | decide | omega)) rfl ?_
  clear E a; intro a E
  refine S_v E rfl (R_assign E rfl) rfl ?_
  clear E a; intro a E
  refine WL_nil ?_
  refine T_n ?_
  refine WP_seq ?_
  refine WP_seq ?_
  refine WP_region ?_
  refine S_v E rfl (R_move E rfl) rfl ?_
  clear E a; intro a E
  refine S_v E rfl (R_lss E rfl rfl) rfl ?_
  clear E a; intro a E
  refine WL_nil ?_
  refine T_n ?_
  refine WP_cond E rfl (fun hc_1 => ?_) (fun hc_1 => ?_)
  · replace hc_1 := of_decide_eq_true hc_1
    refine WP_seq ?_
    refine WP_seq ?_
    refine WP_region ?_
    refine S_v E rfl (R_move E rfl) rfl ?_
    clear E a; intro a E
    refine S_v E rfl (R_lss E rfl rfl) rfl ?_
    clear E a; intro a E
    refine WL_nil ?_
    refine T_n ?_
    refine WP_cond E rfl (fun hc_2 => ?_) (fun hc_2 => ?_)
    · replace hc_2 := of_decide_eq_true hc_2
      refine WP_seq ?_
      refine WP_region ?_
      refine S_v E rfl (R_move E rfl) rfl ?_
      clear E a; intro a E
      refine S_v E rfl (R_move E rfl) rfl ?_
      clear E a; intro a E
      refine S_v E rfl (R_subx (m := (Int.tmod x0 x1) - x1) E rfl rfl (by omega) (by omega)) rfl ?_
      clear E a; intro a E
      refine S_v E rfl (R_assign E rfl) rfl ?_
      clear E a; intro a E
      refine WL_nil ?_
      refine T_n ?_
      refine WP_ret ?_
      refine T_r ?_
      refine T_r ?_
      exact F_ret1 E Tryz.results94 rfl ⟨_, rfl, M1, (Hp.le.refl _), (congrArg (Value.int .i64) (by omega)), S⟩
    · replace hc_2 := of_decide_eq_false hc_2
      refine WP_skip ?_
      refine T_n ?_
      refine WP_seq ?_
      refine WP_region ?_
      refine S_v E rfl (R_move E rfl) rfl ?_
      clear E a; intro a E
      refine S_v E rfl (R_move E rfl) rfl ?_
      clear E a; intro a E
      refine S_v E rfl (R_addx (m := (Int.tmod x0 x1) + x1) E rfl rfl (by omega) (by omega)) rfl ?_
      clear E a; intro a E
      refine S_v E rfl (R_assign E rfl) rfl ?_
      clear E a; intro a E
      refine WL_nil ?_
      refine T_n ?_
      refine WP_ret ?_
      refine T_r ?_
      exact F_ret1 E Tryz.results94 rfl ⟨_, rfl, M1, (Hp.le.refl _), (congrArg (Value.int .i64) (by omega)), S⟩
  · replace hc_1 := of_decide_eq_false hc_1
    refine WP_skip ?_
    refine T_n ?_
    refine WP_seq ?_
    refine WP_region ?_
    refine S_v E rfl (R_move E rfl) rfl ?_
    clear E a; intro a E
    refine S_v E rfl (R_assign E rfl) rfl ?_
    clear E a; intro a E
    refine WL_nil ?_
    refine T_n ?_
    refine WP_ret ?_
    exact F_ret1 E Tryz.results94 rfl ⟨_, rfl, M1, (Hp.le.refl _), (congrArg (Value.int .i64) (by omega)), S⟩

set_option maxRecDepth 100000 in
set_option maxHeartbeats 4000000 in
theorem slices_Index {M : Hp} {v0 : Value} {l0 : List Int} (h0 : RdI M v0 l0){x1 : Int} :
    Pu Tryz.prog (.func (.func 106) #[] #[]) M [v0, .int .i64 x1] (fun r M' => r = .int .i64 (idxOf l0 x1)) := by
  refine Pu_enter Tryz.func106 rfl Tryz.ntmps106 rfl Tryz.call106 ?_
  intro a w M1 H hM1 S E
  replace h0 := h0.le hM1
  have b0 := h0.bound
  refine WP_seq ?_
  refine WP_region ?_
  refine S_v E rfl (R_assign E rfl) rfl ?_
  clear E a; intro a E
  refine WL_nil ?_
  refine T_n ?_
  refine WP_seq ?_
  refine WP_seq ?_
  refine WP_region ?_
  refine S_v E rfl (R_move E rfl) rfl ?_
  clear E a; intro a E
  refine S_v E rfl (R_lenV E rfl T22 h0.len) rfl ?_
  clear E a; intro a E
  refine S_v E rfl (R_move E rfl) rfl ?_
  clear E a; intro a E
  refine WL_nil ?_
  refine T_n ?_
  refine WP_block ?_
  refine WP_loop (γ := Nat) (fun (k : Nat) a w => ∃ (M_1 : Hp), Hp.le M1 M_1 ∧ St w M_1 (H) ∧ Env a 19 [] [(0, v0), (1, .int .i64 x1), (7, .int .i64 (((l0).length : Nat) : Int)), (8, .int .i64 ((k : Nat) : Int))] ∧ (k ≤ (l0).length) ∧ (∀ j, j < k → l0[j]? ≠ some x1)) (fun k => ((l0).length) - k) 0 ⟨M1, Hp.le.refl _, S, E.keep ⟨rfl, rfl, rfl, rfl, trivial⟩, by ((try clear S); (try clear E); first | assumption | omega | rfl | (simp; done) | (simp_all; done) | (simp [List.take_add_one, *]; done) | grind [List.take_add_one]), by ((try clear S); (try clear E); first | assumption | omega | rfl | (simp; done) | (simp_all; done) | (simp [List.take_add_one, *]; done) | grind [List.take_add_one])⟩ ?_
  try clear E
  try clear S
  try clear a
  try clear w
  rintro k a w ⟨M_1, hM_1, S, E, hL0_0, hL0_1⟩
  replace h0 := h0.le hM_1
  refine WP_seq ?_
  refine WP_region ?_
  refine S_v E rfl (R_lss E rfl rfl) rfl ?_
  clear E a; intro a E
  refine WL_nil ?_
  refine T_n ?_
  refine WP_seq ?_
  refine WP_cond E rfl (fun hc_2 => ?_) (fun hc_2 => ?_)
  · replace hc_2 := of_decide_eq_true hc_2
    refine WP_skip ?_
    refine T_n ?_
    refine WP_seq ?_
    refine WP_block ?_
    refine WP_seq ?_
    refine WP_region ?_
    refine S_v E rfl (R_move E rfl) rfl ?_
    clear E a; intro a E
    refine S_v E rfl (R_assign E rfl) rfl ?_
    clear E a; intro a E
    refine WL_nil ?_
    refine T_n ?_
    refine WP_seq ?_
    refine WP_region ?_
    refine S_v E rfl (R_move E rfl) rfl ?_
    clear E a; intro a E
    refine S_v E rfl (R_move E rfl) rfl ?_
    clear E a; intro a E
    refine S_v E rfl (R_move E rfl) rfl ?_
    clear E a; intro a E
    obtain ⟨x_3, hx_3⟩ : ∃ x, (l0)[k]? = some x := ⟨_, List.getElem?_eq_getElem (by first | omega | (simp; done) | (simp; omega) | (simp_all; omega))⟩
    obtain ⟨p_4, hp_4, qp_4⟩ := h0.at hx_3
    refine S_v E rfl (R_idx E rfl rfl T22 hp_4 rfl) rfl ?_
    clear E a; intro a E
    refine S_v E rfl (R_loadM E rfl Tryz.isAgg3 S.imm qp_4) rfl ?_
    clear E a; intro a E
    refine S_v E rfl (R_eql E rfl rfl) rfl ?_
    clear E a; intro a E
    refine WL_nil ?_
    refine T_n ?_
    refine WP_cond E rfl (fun hc_5 => ?_) (fun hc_5 => ?_)
    · replace hc_5 := of_decide_eq_true hc_5
      refine WP_seq ?_
      refine WP_region ?_
      refine S_v E rfl (R_move E rfl) rfl ?_
      clear E a; intro a E
      refine S_v E rfl (R_assign E rfl) rfl ?_
      clear E a; intro a E
      refine WL_nil ?_
      refine T_n ?_
      refine WP_ret ?_
      refine B_r ?_
      refine T_r ?_
      refine T_r ?_
      refine B_r ?_
      refine T_r ?_
      exact F_ret1 E Tryz.results106 rfl ⟨_, rfl, M_1, hM_1, (congrArg (Value.int .i64) (by (rw [idxOf_some (k := k) (by simp_all) hL0_1]))), S⟩
    · replace hc_5 := of_decide_eq_false hc_5
      refine WP_skip ?_
      refine B_n ?_
      refine T_n ?_
      refine WP_region ?_
      refine S_v E rfl (R_addx (m := ((k + 1 : Nat) : Int)) E rfl rfl (by omega) (by omega)) rfl ?_
      clear E a; intro a E
      refine S_v E rfl (R_move E rfl) rfl ?_
      clear E a; intro a E
      refine WL_nil ?_
      refine T_n ?_
      exact ⟨k + 1, ⟨M_1, hM_1, S, E.keep ⟨rfl, rfl, rfl, rfl, trivial⟩, by ((try clear S); (try clear E); first | assumption | omega | rfl | (simp; done) | (simp_all; done) | (simp [List.take_add_one, *]; done) | grind [List.take_add_one]), by ((try clear S); (try clear E); first | assumption | omega | rfl | (simp; done) | (simp_all; done) | (simp [List.take_add_one, *]; done) | grind [List.take_add_one])⟩, by omega⟩
  · replace hc_2 := of_decide_eq_false hc_2
    refine WP_exit ?_
    refine T_x ?_
    refine T_x ?_
    refine B_x ?_
    refine T_n ?_
    refine WP_seq ?_
    refine WP_region ?_
    refine S_v E rfl (R_assign E rfl) rfl ?_
    clear E a; intro a E
    refine WL_nil ?_
    refine T_n ?_
    refine WP_ret ?_
    exact F_ret1 E Tryz.results106 rfl ⟨_, rfl, M_1, hM_1, (congrArg (Value.int .i64) (by (rw [idxOf_none (fun j e => by have := (List.getElem?_eq_some_iff.1 e).1; exact hL0_1 j (by omega) e)]))), S⟩

set_option maxRecDepth 100000 in
set_option maxHeartbeats 4000000 in
theorem slices_Contains {M : Hp} {v0 : Value} {l0 : List Int} (h0 : RdI M v0 l0){x1 : Int} :
    Pu Tryz.prog (.func (.func 95) #[] #[]) M [v0, .int .i64 x1] (fun r M' => r = .bool (decide (x1 ∈ l0))) := by
  refine Pu_enter Tryz.func95 rfl Tryz.ntmps95 rfl Tryz.call95 ?_
  intro a w M1 H hM1 S E
  replace h0 := h0.le hM1
  have b0 := h0.bound
  refine WP_seq ?_
  refine WP_region ?_
  refine S_v E rfl (R_assign E rfl) rfl ?_
  clear E a; intro a E
  refine WL_nil ?_
  refine T_n ?_
  refine WP_seq ?_
  refine WP_region ?_
  refine S_v E rfl (R_move E rfl) rfl ?_
  clear E a; intro a E
  refine S_v E rfl (R_move E rfl) rfl ?_
  clear E a; intro a E
  refine S_x (X_pu E S rfl rfl rfl (slices_Index h0) (Hp.le.refl _) ?_)
  clear E a S; rintro a _ w M_1 hM_1 rfl S E
  replace h0 := h0.le hM_1
  refine S_v E rfl (R_geq E rfl rfl) rfl ?_
  clear E a; intro a E
  refine S_v E rfl (R_assign E rfl) rfl ?_
  clear E a; intro a E
  refine WL_nil ?_
  refine T_n ?_
  refine WP_ret ?_
  exact F_ret1 E Tryz.results95 rfl ⟨_, rfl, M_1, hM_1, (congrArg Value.bool (by (first | exact idxOf_mem _ _ | rfl))), S⟩

set_option maxRecDepth 100000 in
set_option maxHeartbeats 4000000 in
theorem Pred_at_c {M : Hp} {pk0 pn0 : Int} {w0 : Value} {pl0 : List Int} (hw0 : RdI M w0 pl0) (gn0 : -9223372036854775808 ≤ pn0 ∧ pn0 ≤ 9223372036854775807){x1 x2 : Int} :
    PuC Tryz.prog 73 M [.agg #[.int .i64 pk0, .int .i64 pn0, w0], .int .i64 x1, .int .i64 x2] (fun r M' => r = .bool (predAt pk0 pn0 pl0 x1 x2)) := by
  refine PuC_enter Tryz.func73 rfl Tryz.ntmps73 rfl ?_
  intro a w M1 H hM1 S E
  replace hw0 := hw0.le hM1
  have bw0 := hw0.bound
  refine WP_seq ?_
  refine WP_region ?_
  refine S_x (X_box (cs := #[.int .i64 pk0, .int .i64 pn0, w0]) E S rfl rfl rfl ?_)
  clear E a S; rintro a w b_1 E S
  obtain ⟨M_2, hM_2, hb_1, S⟩ := S.freezeB
  replace hw0 := hw0.le hM_2
  refine S_v E rfl (R_assign E rfl) rfl ?_
  clear E a; intro a E
  refine WL_nil ?_
  refine T_n ?_
  refine WP_seq ?_
  refine WP_seq ?_
  refine WP_region ?_
  refine S_v E rfl (R_fieldAddr E rfl (FA38_0 _)) rfl ?_
  clear E a; intro a E
  refine S_v E rfl (R_loadM E rfl Tryz.isAgg3 S.imm (cellM_boxo hb_1 rfl)) rfl ?_
  clear E a; intro a E
  refine WL_nil ?_
  refine T_n ?_
  refine WP_block ?_
  refine WP_seq ?_
  refine WP_region ?_
  refine S_v E rfl (R_eql E rfl rfl) rfl ?_
  clear E a; intro a E
  refine S_v E rfl (R_assign E rfl) rfl ?_
  clear E a; intro a E
  refine WL_nil ?_
  refine T_n ?_
  refine WP_cond E rfl (fun hc_3 => ?_) (fun hc_3 => ?_)
  · replace hc_3 := of_decide_eq_true hc_3
    refine WP_seq ?_
    refine WP_region ?_
    refine S_v E rfl (R_move E rfl) rfl ?_
    clear E a; intro a E
    refine S_v E rfl (R_fieldAddr E rfl (FA38_1 _)) rfl ?_
    clear E a; intro a E
    refine S_v E rfl (R_loadM E rfl Tryz.isAgg3 S.imm (cellM_boxo hb_1 rfl)) rfl ?_
    clear E a; intro a E
    refine S_v E rfl (R_lss E rfl rfl) rfl ?_
    clear E a; intro a E
    refine S_v E rfl (R_assign E rfl) rfl ?_
    clear E a; intro a E
    refine WL_nil ?_
    refine T_n ?_
    refine WP_ret ?_
    refine B_r ?_
    refine T_r ?_
    exact F_ret1 E Tryz.results73 rfl ⟨_, rfl, M_2, hM_2, (congrArg Value.bool (by (clear E S; unfold predAt; first | (have e := (first_eq (l := pl0) (by assumption)).1; simp_all; done) | (have e : pl0 = [] := List.eq_nil_of_length_eq_zero (by omega); simp_all; done) | (simp_all; done)))), S⟩
  · replace hc_3 := of_decide_eq_false hc_3
    refine WP_seq ?_
    refine WP_region ?_
    refine S_v E rfl (R_eql E rfl rfl) rfl ?_
    clear E a; intro a E
    refine S_v E rfl (R_assign E rfl) rfl ?_
    clear E a; intro a E
    refine WL_nil ?_
    refine T_n ?_
    refine WP_cond E rfl (fun hc_4 => ?_) (fun hc_4 => ?_)
    · replace hc_4 := of_decide_eq_true hc_4
      refine WP_seq ?_
      refine WP_region ?_
      refine S_v E rfl (R_assign E rfl) rfl ?_
      clear E a; intro a E
      refine WL_nil ?_
      refine T_n ?_
      refine WP_seq ?_
      refine WP_seq ?_
      refine WP_region ?_
      refine S_v E rfl (R_fieldAddr E rfl (FA38_2 _)) rfl ?_
      clear E a; intro a E
      refine S_v E rfl (R_loadM E rfl Tryz.isAgg22 S.imm (cellM_boxo hb_1 rfl)) rfl ?_
      clear E a; intro a E
      refine S_v E rfl (R_lenV E rfl T22 hw0.len) rfl ?_
      clear E a; intro a E
      refine S_v E rfl (R_gtr E rfl rfl) rfl ?_
      clear E a; intro a E
      refine WL_nil ?_
      refine T_n ?_
      refine WP_cond E rfl (fun hc_5 => ?_) (fun hc_5 => ?_)
      · replace hc_5 := of_decide_eq_true hc_5
        refine WP_region ?_
        refine S_v E rfl (R_fieldAddr E rfl (FA38_2 _)) rfl ?_
        clear E a; intro a E
        refine S_v E rfl (R_loadM E rfl Tryz.isAgg22 S.imm (cellM_boxo hb_1 rfl)) rfl ?_
        clear E a; intro a E
        obtain ⟨x_6, hx_6⟩ : ∃ x, (pl0)[0]? = some x := ⟨_, List.getElem?_eq_getElem (by first | omega | (simp; done) | (simp; omega) | (simp_all; omega))⟩
        obtain ⟨p_7, hp_7, qp_7⟩ := hw0.at hx_6
        refine S_v E rfl (R_idx E rfl rfl T22 hp_7 (by omega)) rfl ?_
        clear E a; intro a E
        refine S_v E rfl (R_loadM E rfl Tryz.isAgg3 S.imm qp_7) rfl ?_
        clear E a; intro a E
        refine S_v E rfl (R_assign E rfl) rfl ?_
        clear E a; intro a E
        refine WL_nil ?_
        refine T_n ?_
        refine WP_seq ?_
        refine WP_region ?_
        refine S_v E rfl (R_fieldAddr E rfl (FA38_1 _)) rfl ?_
        clear E a; intro a E
        refine S_v E rfl (R_loadM E rfl Tryz.isAgg3 S.imm (cellM_boxo hb_1 rfl)) rfl ?_
        clear E a; intro a E
        refine S_v E rfl (R_neq E rfl rfl) rfl ?_
        clear E a; intro a E
        refine S_v E rfl (R_move E rfl) rfl ?_
        clear E a; intro a E
        refine split_bool (decide (pn0 ≠ 0)) (fun hc_8 => ?_) (fun hc_8 => ?_)
        · replace E := E.val (t := 28) rfl hc_8
          replace E := E.val (t := 29) rfl hc_8
          replace hc_8 := of_decide_eq_true hc_8
          refine WL_guard_yes E rfl rfl ?_
          refine S_v E rfl (R_move E rfl) rfl ?_
          clear E a; intro a E
          refine WL_guard_yes E rfl rfl ?_
          refine S_v E rfl (R_fieldAddr E rfl (FA38_1 _)) rfl ?_
          clear E a; intro a E
          refine WL_guard_yes E rfl rfl ?_
          refine S_v E rfl (R_loadM E rfl Tryz.isAgg3 S.imm (cellM_boxo hb_1 rfl)) rfl ?_
          clear E a; intro a E
          refine WL_guard_yes E rfl rfl ?_
          refine S_x (X_pu E S rfl rfl rfl (impl_mod (by first | omega | assumption) (by omega)) (Hp.le.refl _) ?_)
          clear E a S; rintro a _ w M_9 hM_9 rfl S E
          replace hw0 := hw0.le hM_9
          replace hb_1 := hM_9.2 _ _ hb_1
          refine WL_guard_yes E rfl rfl ?_
          refine S_v E rfl (R_move E rfl) rfl ?_
          clear E a; intro a E
          refine WL_guard_yes E rfl rfl ?_
          refine S_v E rfl (R_eql E rfl rfl) rfl ?_
          clear E a; intro a E
          refine S_v E rfl (R_pickT E rfl rfl) rfl ?_
          clear E a; intro a E
          refine S_v E rfl (R_assign E rfl) rfl ?_
          clear E a; intro a E
          refine WL_nil ?_
          refine T_n ?_
          refine WP_ret ?_
          refine B_r ?_
          refine T_r ?_
          exact F_ret1 E Tryz.results73 rfl ⟨_, rfl, M_9, (hM_2.trans hM_9), (congrArg Value.bool (by (clear E S; unfold predAt; first | (have e := (first_eq (l := pl0) (by assumption)).1; simp_all; done) | (have e : pl0 = [] := List.eq_nil_of_length_eq_zero (by omega); simp_all; done) | (simp_all; done)))), S⟩
        · replace E := E.val (t := 28) rfl hc_8
          replace E := E.val (t := 29) rfl hc_8
          replace hc_8 := of_decide_eq_false hc_8
          refine WL_guard_no E rfl rfl rfl rfl fun a E => ?_
          refine WL_guard_no E rfl rfl rfl rfl fun a E => ?_
          refine WL_guard_no E rfl rfl rfl rfl fun a E => ?_
          refine WL_guard_no E rfl rfl rfl rfl fun a E => ?_
          refine WL_guard_no E rfl rfl rfl rfl fun a E => ?_
          refine WL_guard_no E rfl rfl rfl rfl fun a E => ?_
          refine S_v E rfl (R_pickF E rfl rfl) rfl ?_
          clear E a; intro a E
          refine S_v E rfl (R_assign E rfl) rfl ?_
          clear E a; intro a E
          refine WL_nil ?_
          refine T_n ?_
          refine WP_ret ?_
          refine B_r ?_
          refine T_r ?_
          exact F_ret1 E Tryz.results73 rfl ⟨_, rfl, M_2, hM_2, (congrArg Value.bool (by (clear E S; unfold predAt; first | (have e := (first_eq (l := pl0) (by assumption)).1; simp_all; done) | (have e : pl0 = [] := List.eq_nil_of_length_eq_zero (by omega); simp_all; done) | (simp_all; done)))), S⟩
      · replace hc_5 := of_decide_eq_false hc_5
        refine WP_skip ?_
        refine T_n ?_
        refine WP_seq ?_
        refine WP_region ?_
        refine S_v E rfl (R_fieldAddr E rfl (FA38_1 _)) rfl ?_
        clear E a; intro a E
        refine S_v E rfl (R_loadM E rfl Tryz.isAgg3 S.imm (cellM_boxo hb_1 rfl)) rfl ?_
        clear E a; intro a E
        refine S_v E rfl (R_neq E rfl rfl) rfl ?_
        clear E a; intro a E
        refine S_v E rfl (R_move E rfl) rfl ?_
        clear E a; intro a E
        refine split_bool (decide (pn0 ≠ 0)) (fun hc_10 => ?_) (fun hc_10 => ?_)
        · replace E := E.val (t := 28) rfl hc_10
          replace E := E.val (t := 29) rfl hc_10
          replace hc_10 := of_decide_eq_true hc_10
          refine WL_guard_yes E rfl rfl ?_
          refine S_v E rfl (R_move E rfl) rfl ?_
          clear E a; intro a E
          refine WL_guard_yes E rfl rfl ?_
          refine S_v E rfl (R_fieldAddr E rfl (FA38_1 _)) rfl ?_
          clear E a; intro a E
          refine WL_guard_yes E rfl rfl ?_
          refine S_v E rfl (R_loadM E rfl Tryz.isAgg3 S.imm (cellM_boxo hb_1 rfl)) rfl ?_
          clear E a; intro a E
          refine WL_guard_yes E rfl rfl ?_
          refine S_x (X_pu E S rfl rfl rfl (impl_mod (by first | omega | assumption) (by omega)) (Hp.le.refl _) ?_)
          clear E a S; rintro a _ w M_11 hM_11 rfl S E
          replace hw0 := hw0.le hM_11
          replace hb_1 := hM_11.2 _ _ hb_1
          refine WL_guard_yes E rfl rfl ?_
          refine S_v E rfl (R_move E rfl) rfl ?_
          clear E a; intro a E
          refine WL_guard_yes E rfl rfl ?_
          refine S_v E rfl (R_eql E rfl rfl) rfl ?_
          clear E a; intro a E
          refine S_v E rfl (R_pickT E rfl rfl) rfl ?_
          clear E a; intro a E
          refine S_v E rfl (R_assign E rfl) rfl ?_
          clear E a; intro a E
          refine WL_nil ?_
          refine T_n ?_
          refine WP_ret ?_
          refine B_r ?_
          refine T_r ?_
          exact F_ret1 E Tryz.results73 rfl ⟨_, rfl, M_11, (hM_2.trans hM_11), (congrArg Value.bool (by (clear E S; unfold predAt; first | (have e := (first_eq (l := pl0) (by assumption)).1; simp_all; done) | (have e : pl0 = [] := List.eq_nil_of_length_eq_zero (by omega); simp_all; done) | (simp_all; done)))), S⟩
        · replace E := E.val (t := 28) rfl hc_10
          replace E := E.val (t := 29) rfl hc_10
          replace hc_10 := of_decide_eq_false hc_10
          refine WL_guard_no E rfl rfl rfl rfl fun a E => ?_
          refine WL_guard_no E rfl rfl rfl rfl fun a E => ?_
          refine WL_guard_no E rfl rfl rfl rfl fun a E => ?_
          refine WL_guard_no E rfl rfl rfl rfl fun a E => ?_
          refine WL_guard_no E rfl rfl rfl rfl fun a E => ?_
          refine WL_guard_no E rfl rfl rfl rfl fun a E => ?_
          refine S_v E rfl (R_pickF E rfl rfl) rfl ?_
          clear E a; intro a E
          refine S_v E rfl (R_assign E rfl) rfl ?_
          clear E a; intro a E
          refine WL_nil ?_
          refine T_n ?_
          refine WP_ret ?_
          refine B_r ?_
          refine T_r ?_
          exact F_ret1 E Tryz.results73 rfl ⟨_, rfl, M_2, hM_2, (congrArg Value.bool (by (clear E S; unfold predAt; first | (have e := (first_eq (l := pl0) (by assumption)).1; simp_all; done) | (have e : pl0 = [] := List.eq_nil_of_length_eq_zero (by omega); simp_all; done) | (simp_all; done)))), S⟩
    · replace hc_4 := of_decide_eq_false hc_4
      refine WP_seq ?_
      refine WP_region ?_
      refine S_v E rfl (R_eql E rfl rfl) rfl ?_
      clear E a; intro a E
      refine S_v E rfl (R_assign E rfl) rfl ?_
      clear E a; intro a E
      refine WL_nil ?_
      refine T_n ?_
      refine WP_cond E rfl (fun hc_12 => ?_) (fun hc_12 => ?_)
      · replace hc_12 := of_decide_eq_true hc_12
        refine WP_seq ?_
        refine WP_region ?_
        refine S_v E rfl (R_fieldAddr E rfl (FA38_2 _)) rfl ?_
        clear E a; intro a E
        refine S_v E rfl (R_loadM E rfl Tryz.isAgg22 S.imm (cellM_boxo hb_1 rfl)) rfl ?_
        clear E a; intro a E
        refine S_v E rfl (R_move E rfl) rfl ?_
        clear E a; intro a E
        refine S_x (X_pu E S rfl rfl rfl (slices_Contains hw0) (Hp.le.refl _) ?_)
        clear E a S; rintro a _ w M_13 hM_13 rfl S E
        replace hw0 := hw0.le hM_13
        replace hb_1 := hM_13.2 _ _ hb_1
        refine S_v E rfl (R_assign E rfl) rfl ?_
        clear E a; intro a E
        refine WL_nil ?_
        refine T_n ?_
        refine WP_ret ?_
        refine B_r ?_
        refine T_r ?_
        exact F_ret1 E Tryz.results73 rfl ⟨_, rfl, M_13, (hM_2.trans hM_13), (congrArg Value.bool (by (clear E S; unfold predAt; first | (have e := (first_eq (l := pl0) (by assumption)).1; simp_all; done) | (have e : pl0 = [] := List.eq_nil_of_length_eq_zero (by omega); simp_all; done) | (simp_all; done)))), S⟩
      · replace hc_12 := of_decide_eq_false hc_12
        refine WP_seq ?_
        refine WP_region ?_
        refine S_v E rfl (R_eql E rfl rfl) rfl ?_
        clear E a; intro a E
        refine S_v E rfl (R_assign E rfl) rfl ?_
        clear E a; intro a E
        refine WL_nil ?_
        refine T_n ?_
        refine WP_cond E rfl (fun hc_14 => ?_) (fun hc_14 => ?_)
        · replace hc_14 := of_decide_eq_true hc_14
          refine WP_seq ?_
          refine WP_region ?_
          refine S_v E rfl (R_move E rfl) rfl ?_
          clear E a; intro a E
          refine S_v E rfl (R_rem E rfl rfl (by first | decide | omega)) rfl ?_
          clear E a; intro a E
          refine S_v E rfl (R_eql E rfl rfl) rfl ?_
          clear E a; intro a E
          refine S_v E rfl (R_assign E rfl) rfl ?_
          clear E a; intro a E
          refine WL_nil ?_
          refine T_n ?_
          refine WP_ret ?_
          refine B_r ?_
          refine T_r ?_
          exact F_ret1 E Tryz.results73 rfl ⟨_, rfl, M_2, hM_2, (congrArg Value.bool (by (clear E S; unfold predAt; first | (have e := (first_eq (l := pl0) (by assumption)).1; simp_all; done) | (have e : pl0 = [] := List.eq_nil_of_length_eq_zero (by omega); simp_all; done) | (simp_all; done)))), S⟩
        · replace hc_14 := of_decide_eq_false hc_14
          refine WP_skip ?_
          refine B_n ?_
          refine T_n ?_
          refine WP_seq ?_
          refine WP_region ?_
          refine S_v E rfl (R_fieldAddr E rfl (FA38_0 _)) rfl ?_
          clear E a; intro a E
          refine S_v E rfl (R_loadM E rfl Tryz.isAgg3 S.imm (cellM_boxo hb_1 rfl)) rfl ?_
          clear E a; intro a E
          refine S_v E rfl (R_eql E rfl rfl) rfl ?_
          clear E a; intro a E
          refine S_v E rfl (R_assign E rfl) rfl ?_
          clear E a; intro a E
          refine WL_nil ?_
          refine T_n ?_
          refine WP_ret ?_
          exact F_ret1 E Tryz.results73 rfl ⟨_, rfl, M_2, hM_2, (congrArg Value.bool (by (clear E S; unfold predAt; first | (have e := (first_eq (l := pl0) (by assumption)).1; simp_all; done) | (have e : pl0 = [] := List.eq_nil_of_length_eq_zero (by omega); simp_all; done) | (simp_all; done)))), S⟩
theorem Pred_at {M : Hp} {pk0 pn0 : Int} {w0 : Value} {pl0 : List Int} (hw0 : RdI M w0 pl0) (gn0 : -9223372036854775808 ≤ pn0 ∧ pn0 ≤ 9223372036854775807){x1 x2 : Int} :
    Pu Tryz.prog (.func (.func 73) #[.agg #[.int .i64 pk0, .int .i64 pn0, w0]] #[]) M [.int .i64 x1, .int .i64 x2] (fun r M' => r = .bool (predAt pk0 pn0 pl0 x1 x2)) := PuC.pu Tryz.call73 rfl (Pred_at_c hw0 gn0)
theorem Pred_at_d {M : Hp} {pk0 pn0 : Int} {w0 : Value} {pl0 : List Int} (hw0 : RdI M w0 pl0) (gn0 : -9223372036854775808 ≤ pn0 ∧ pn0 ≤ 9223372036854775807){x1 x2 : Int} :
    Pu Tryz.prog (.func (.func 73) #[] #[]) M [.agg #[.int .i64 pk0, .int .i64 pn0, w0], .int .i64 x1, .int .i64 x2] (fun r M' => r = .bool (predAt pk0 pn0 pl0 x1 x2)) := PuC.pu Tryz.call73 rfl (Pred_at_c hw0 gn0)

set_option maxRecDepth 100000 in
set_option maxHeartbeats 4000000 in
theorem impl_PickBy {M : Hp} {v0 : Value} {l0 : List (Int × Int)} (h0 : RdS 2 RP2 M v0 l0){pk1 pn1 : Int} {w1 : Value} {pl1 : List Int} (hw1 : RdI M w1 pl1) (gn1 : -9223372036854775808 ≤ pn1 ∧ pn1 ≤ 9223372036854775807) (hb : l0.length ≤ 1000000000000) :
    Pu Tryz.prog (.func (.func 37) #[] #[]) M [v0, .agg #[.int .i64 pk1, .int .i64 pn1, w1]] (fun r M' => RdS 2 RP2 M' r (entE ((mkE l0).filter (fun e : Int × Int => predAt pk1 pn1 pl1 e.1 e.2)))) := by
  refine Pu_enter Tryz.func37 rfl Tryz.ntmps37 rfl Tryz.call37 ?_
  intro a w M1 H hM1 S E
  replace h0 := h0.le RP2_mono hM1
  replace hw1 := hw1.le hM1
  have b0 := h0.bound
  refine WP_seq ?_
  refine WP_region ?_
  refine S_x (X_box (cs := #[.int .i64 pk1, .int .i64 pn1, w1]) E S rfl rfl rfl ?_)
  clear E a S; rintro a w b_1 E S
  obtain ⟨M_2, hM_2, hb_1, S⟩ := S.freezeB
  replace h0 := h0.le RP2_mono hM_2
  replace hw1 := hw1.le hM_2
  refine S_v E rfl (R_assign E rfl) rfl ?_
  clear E a; intro a E
  refine WL_nil ?_
  refine T_n ?_
  refine WP_seq ?_
  have hb_1k2 := hb_1
  replace S := S.mono_heap (w' := World.drew _) rfl
  refine WP_drawn (C := fun x w => agree M_2 w) (bf := (fun i => [])) [0, 2, 3, 6] [0, 2, 3, 1, 4, 5, 6] Tryz.mixed (by kernel_rfl) (fun x hq => S.imm) ?_
  refine D_v E rfl rfl rfl (fun w hC => (R_move E rfl)) ?_
  clear E a; intro a E
  refine D_v E rfl rfl rfl (fun w hC => (R_loadGM E rfl (Tryz.isAgg38 _) (Tryz.sizeOf38 _) hC hb_1k2)) ?_
  clear E a; intro a E
  refine D_v E rfl rfl rfl (fun w hC => (R_makeFunc E rfl rfl)) ?_
  clear E a; intro a E
  refine D_x rfl rfl rfl (X_pu E S rfl rfl rfl (impl_mapOf h0) (Hp.le.refl _) ?_)
  clear E a S; rintro a v_4 w M_3 hM_3 hv_4 S E
  replace h0 := h0.le RP2_mono hM_3
  replace hw1 := hw1.le hM_3
  replace hb_1 := hM_3.2 _ _ hb_1
  refine ⟨fun x hq hb => (agree_le hM_3 S.imm), ?_⟩
  refine D_x rfl rfl rfl (X_pu E S rfl rfl rfl (lo_PickBy hv_4 ⟨rfl, fun zx1 zx2 => Pred_at (x1 := zx1) (x2 := zx2) hw1 (by omega)⟩) (Hp.le.refl _) ?_)
  clear E a S; rintro a v_6 w M_5 hM_5 ⟨q_7, hv_6, hkq_7⟩ S E
  replace h0 := h0.le RP2_mono hM_5
  replace hw1 := hw1.le hM_5
  replace hb_1 := hM_5.2 _ _ hb_1
  replace hv_4 := hv_4.le hM_5
  refine ⟨fun x hq hb => (agree_le (hM_3.trans hM_5) S.imm), ?_⟩
  refine D_x rfl rfl rfl (X_pu E S rfl rfl rfl (impl_pairs hv_6 (by first | omega | (exact bigE _ l0 (by first | (rw [ixm_len]; exact Nat.le_refl _) | exact kpix_len _ _ _ | (rw [List.length_map]; exact Nat.le_refl _)) (by omega)) | exact Nat.le_trans (mkE_len _) (by omega) | (exact Nat.le_trans (lk_len (by assumption) (by assumption)) (by first | omega | exact Nat.le_trans (fl_mk _ _) (by omega))) | exact Nat.le_trans (mk_perm_len (by assumption)) (by omega) | exact Nat.le_trans (Nat.le_trans (lk_len (by assumption) (by assumption)) (mkl_len _ _)) (by omega) | exact Nat.le_trans (Nat.le_trans (lk_len (by assumption) (by assumption)) (List.length_filter_le _ _)) (Nat.le_trans (mkE_len _) (by omega)) | (first | omega | (simp; omega) | (simp; done) | (simp_all; omega) | grind))) (Hp.le.refl _) ?_)
  clear E a S; rintro a v_9 w M_8 hM_8 hv_9 S E
  replace h0 := h0.le RP2_mono hM_8
  replace hw1 := hw1.le hM_8
  replace hb_1 := hM_8.2 _ _ hb_1
  replace hv_4 := hv_4.le hM_8
  replace hv_6 := hv_6.le hM_8
  refine ⟨fun x hq hb => (agree_le (hM_3.trans (hM_5.trans hM_8)) S.imm), ?_⟩
  refine D_v E rfl rfl rfl (fun w hC => (R_assign E rfl)) ?_
  clear E a; intro a E
  refine D_end (NoP_n ?_)
  refine T_n ?_
  refine WP_ret ?_
  exact F_ret1 E Tryz.results37 rfl ⟨_, rfl, M_8, (hM_2.trans (hM_3.trans (hM_5.trans hM_8))), (by rw [show (entE ((mkE l0).filter (fun e : Int × Int => predAt pk1 pn1 pl1 e.1 e.2))) = (srtK Prod.fst q_7) from by (exact (lk_srt (by assumption) (by assumption)).symm)]; exact hv_9), S⟩

set_option maxRecDepth 100000 in
set_option maxHeartbeats 4000000 in
theorem lo_FilterKeys {M : Hp} {m0 : Value} {q0 : List (Int × Int)} (hm0 : RdM M m0 (encE (Value.int .i64) q0)){v1 : Value} {f1 : Int → Int → Bool} (h1 : PF2B Tryz.prog v1 M f1) (hb : q0.length ≤ 1000000000000) :
    Pu Tryz.prog (.func (.func 74) #[] #[]) M [m0, v1] (fun r M' => ∃ p_, RdI M' r p_ ∧ p_.Perm (((q0).filter (fun e : Int × Int => f1 e.1 e.2)).map Prod.fst)) := by
  refine Pu_enter Tryz.func74 rfl Tryz.ntmps74 rfl Tryz.call74 ?_
  intro a w M1 H hM1 S E
  replace hm0 := hm0.le hM1
  replace h1 := h1.le hM1
  refine WP_seq ?_
  refine WP_region ?_
  refine S_v E rfl (R_assign E rfl) rfl ?_
  clear E a; intro a E
  refine WL_nil ?_
  refine T_n ?_
  refine WP_seq ?_
  refine WP_region ?_
  refine S_x (X_make0 (k := 0) E S rfl rfl rfl T22 rfl (by omega) (by omega) (by omega) ?_)
  clear E a S; rintro a w v_1 E S
  replace S := S.made0
  refine S_v E rfl (R_assign E rfl) rfl ?_
  clear E a; intro a E
  refine WL_nil ?_
  refine T_n ?_
  refine WP_seq ?_
  refine WP_seq ?_
  refine WP_region ?_
  refine S_v E rfl (R_move E rfl) rfl ?_
  clear E a; intro a E
  refine S_x (X_range E S rfl MT63 hm0 rfl ?_)
  clear E a S; rintro a w i_2 es_3 ck_4 E hf_5 S
  replace S : St w M1 (ItO m0 es_3 ck_4 i_2 (encE (Value.int .i64) ([] : List (Int × Int))) :: _) := S
  refine WL_nil ?_
  refine T_n ?_
  refine WP_block ?_
  replace S := S.front1
  replace S := S.front1
  replace S := S.front1
  replace S := S.re1 (l' := (([] : List (Int × Int)).filter (fun e : Int × Int => f1 e.1 e.2)).map Prod.fst) (by first | rfl | (simp; done) | exact flk_yes (F := (fun e : Int × Int => f1 e.1 e.2)) (g := Prod.fst) (e := (_, _)) (by assumption) | exact flk_no (F := (fun e : Int × Int => f1 e.1 e.2)) (g := Prod.fst) (e := (_, _)) (by assumption))
  replace S := S.front1
  refine WP_loop (γ := List (Int × Int)) (fun (p : List (Int × Int)) a w => ∃ (M_6 : Hp) (u5 : Value), Hp.le M1 M_6 ∧ St w M_6 (ItO m0 es_3 ck_4 i_2 (encE (Value.int .i64) p) :: OwnI 3 u5 ((p.filter (fun e : Int × Int => f1 e.1 e.2)).map Prod.fst) :: H) ∧ Env a 25 [] [(1, v1), (5, u5), (10, .pointer (some ⟨i_2, 0, none⟩))] ∧ ((p.map Prod.fst).Nodup) ∧ (∀ z ∈ p, z ∈ q0) ∧ (p.length ≤ q0.length)) (fun p => q0.length - p.length) ([] : List (Int × Int)) ⟨M1, _, Hp.le.refl _, S, E.keep ⟨rfl, rfl, rfl, trivial⟩, (by simp), (by simp), (by simp)⟩ ?_
  try clear E
  try clear S
  try clear a
  try clear w
  rintro p a w ⟨M_6, u5, hM_6, S, E, hL0_0, hL0_1, hL0_2⟩
  replace hm0 := hm0.le hM_6
  replace h1 := h1.le hM_6
  replace hf_5 := hf_5.le hM_6
  have hff := List.length_filter_le (fun e : Int × Int => f1 e.1 e.2) p
  refine WP_seq ?_
  refine WP_region ?_
  refine S_x (X_nextE (vf := (Value.int .i64)) E S rfl hf_5 rfl (by assumption) (by assumption) ?_ ?_)
  · clear E a S; rintro a E hpm_7 S
    refine S_v E rfl (R_extract E rfl rfl) rfl ?_
    clear E a; intro a E
    refine WL_nil ?_
    refine T_n ?_
    refine WP_seq ?_
    refine WP_condF E rfl rfl ?_
    refine WP_exit ?_
    refine T_x ?_
    refine T_x ?_
    refine B_x ?_
    refine T_n ?_
    refine WP_seq ?_
    refine WP_region ?_
    refine S_v E rfl (R_move E rfl) rfl ?_
    clear E a; intro a E
    refine S_v E rfl (R_assign E rfl) rfl ?_
    clear E a; intro a E
    refine WL_nil ?_
    refine T_n ?_
    refine WP_ret ?_
    replace S := S.front1
    have S0 := S; clear S
    obtain ⟨M_8, hM_8, hz_9, S⟩ := S0.freezeI (by (have hff := List.length_filter_le (fun e : Int × Int => f1 e.1 e.2) p; simp only [List.length_map] at *; omega))
    clear S0
    replace hm0 := hm0.le hM_8
    replace h1 := h1.le hM_8
    replace hf_5 := hf_5.le hM_8
    exact F_ret1 E Tryz.results74 rfl ⟨_, rfl, M_8, (hM_6.trans hM_8), ⟨_, hz_9, by (exact List.Perm.map _ (List.Perm.filter _ (by assumption)))⟩, S.drop⟩
  · clear E a S w; rintro a w k_10 u_12 E hk_11 hk_11n hk_11l S
    refine S_v E rfl (R_extract E rfl rfl) rfl ?_
    clear E a; intro a E
    refine WL_nil ?_
    refine T_n ?_
    refine WP_seq ?_
    refine WP_condT E rfl rfl ?_
    refine WP_skip ?_
    refine T_n ?_
    refine WP_block ?_
    refine WP_seq ?_
    refine WP_region ?_
    refine S_v E rfl (R_entry (k := k_10) (v := .int .i64 u_12) E (by have S1 := S; simp only [encE, List.map_append, List.map_cons, List.map_nil] at S1; exact S1) hf_5 rfl) rfl ?_
    clear E a; intro a E
    refine S_v E rfl (R_extract E rfl rfl) rfl ?_
    clear E a; intro a E
    refine S_v E rfl (R_extract E rfl rfl) rfl ?_
    clear E a; intro a E
    refine S_v E rfl (R_assign E rfl) rfl ?_
    clear E a; intro a E
    refine S_v E rfl (R_assign E rfl) rfl ?_
    clear E a; intro a E
    refine WL_nil ?_
    refine T_n ?_
    refine WP_seq ?_
    refine WP_region ?_
    refine S_v E rfl (R_move E rfl) rfl ?_
    clear E a; intro a E
    refine S_v E rfl (R_move E rfl) rfl ?_
    clear E a; intro a E
    refine S_v E rfl (R_move E rfl) rfl ?_
    clear E a; intro a E
    refine S_x (X_pu E S rfl rfl rfl (h1.2 k_10 u_12) (Hp.le.refl _) ?_)
    clear E a S; rintro a _ w M_13 hM_13 rfl S E
    replace hm0 := hm0.le hM_13
    replace h1 := h1.le hM_13
    replace hf_5 := hf_5.le hM_13
    refine WL_nil ?_
    refine T_n ?_
    refine WP_cond E rfl (fun hc_14 => ?_) (fun hc_14 => ?_)
    · refine WP_region ?_
      refine S_v E rfl (R_move E rfl) rfl ?_
      clear E a; intro a E
      refine S_v E rfl (R_move E rfl) rfl ?_
      clear E a; intro a E
      refine S_x (X_buildI (ys := [k_10]) E S rfl T22 rfl rfl rfl ?_)
      clear E a S; rintro a w v_15 E S
      replace S := S.front2
      replace S := S.front1
      refine S_x (X_appendB (xs := (p.filter (fun e : Int × Int => f1 e.1 e.2)).map Prod.fst) (ys := [k_10]) E S rfl rfl rfl T22 (by (simp only [List.length_cons, List.length_nil, List.length_map] at *; omega)) ?_)
      clear E a S; rintro a w v_16 E S
      refine S_v E rfl (R_assign E rfl) rfl ?_
      clear E a; intro a E
      refine WL_nil ?_
      refine B_n ?_
      refine T_n ?_
      replace S := S.front1
      replace S := S.front1
      replace S := S.re1 (l' := ((p ++ [(k_10, u_12)]).filter (fun e : Int × Int => f1 e.1 e.2)).map Prod.fst) (by first | rfl | (simp; done) | exact flk_yes (F := (fun e : Int × Int => f1 e.1 e.2)) (g := Prod.fst) (e := (_, _)) (by assumption) | exact flk_no (F := (fun e : Int × Int => f1 e.1 e.2)) (g := Prod.fst) (e := (_, _)) (by assumption))
      replace S := S.front1
      replace S := S.reIt (p' := (encE (Value.int .i64) (p ++ [(k_10, u_12)]))) (congrArg (encE (Value.int .i64)) (show p ++ [(k_10, u_12)] = (p ++ [(k_10, u_12)]) by first | rfl | (simp; done) | exact flk_yes (F := (fun e : Int × Int => f1 e.1 e.2)) (g := Prod.fst) (e := (_, _)) (by assumption) | exact flk_no (F := (fun e : Int × Int => f1 e.1 e.2)) (g := Prod.fst) (e := (_, _)) (by assumption)))
      exact ⟨(p ++ [(k_10, u_12)]), ⟨M_13, _, (hM_6.trans hM_13), S, E.keep ⟨rfl, rfl, rfl, trivial⟩, (by exact snocNk (by assumption) (by assumption)), (by exact snocSk (by assumption) (by assumption)), (by simp; omega)⟩, (by simp; omega)⟩
    · refine WP_skip ?_
      refine B_n ?_
      refine T_n ?_
      replace S := S.front1
      replace S := S.re1 (l' := ((p ++ [(k_10, u_12)]).filter (fun e : Int × Int => f1 e.1 e.2)).map Prod.fst) (by first | rfl | (simp; done) | exact flk_yes (F := (fun e : Int × Int => f1 e.1 e.2)) (g := Prod.fst) (e := (_, _)) (by assumption) | exact flk_no (F := (fun e : Int × Int => f1 e.1 e.2)) (g := Prod.fst) (e := (_, _)) (by assumption))
      replace S := S.front1
      replace S := S.reIt (p' := (encE (Value.int .i64) (p ++ [(k_10, u_12)]))) (congrArg (encE (Value.int .i64)) (show p ++ [(k_10, u_12)] = (p ++ [(k_10, u_12)]) by first | rfl | (simp; done) | exact flk_yes (F := (fun e : Int × Int => f1 e.1 e.2)) (g := Prod.fst) (e := (_, _)) (by assumption) | exact flk_no (F := (fun e : Int × Int => f1 e.1 e.2)) (g := Prod.fst) (e := (_, _)) (by assumption)))
      exact ⟨(p ++ [(k_10, u_12)]), ⟨M_13, _, (hM_6.trans hM_13), S, E.keep ⟨rfl, rfl, rfl, trivial⟩, (by exact snocNk (by assumption) (by assumption)), (by exact snocSk (by assumption) (by assumption)), (by simp; omega)⟩, (by simp; omega)⟩

set_option maxRecDepth 100000 in
set_option maxHeartbeats 4000000 in
theorem impl_FilterKeys {M : Hp} {v0 : Value} {l0 : List (Int × Int)} (h0 : RdS 2 RP2 M v0 l0){pk1 pn1 : Int} {w1 : Value} {pl1 : List Int} (hw1 : RdI M w1 pl1) (gn1 : -9223372036854775808 ≤ pn1 ∧ pn1 ≤ 9223372036854775807) (hb : l0.length ≤ 1000000000000) :
    Pu Tryz.prog (.func (.func 38) #[] #[]) M [v0, .agg #[.int .i64 pk1, .int .i64 pn1, w1]] (fun r M' => RdI M' r (srtM (((mkE l0).filter (fun e : Int × Int => predAt pk1 pn1 pl1 e.1 e.2)).map Prod.fst))) := by
  refine Pu_enter Tryz.func38 rfl Tryz.ntmps38 rfl Tryz.call38 ?_
  intro a w M1 H hM1 S E
  replace h0 := h0.le RP2_mono hM1
  replace hw1 := hw1.le hM1
  have b0 := h0.bound
  refine WP_seq ?_
  refine WP_region ?_
  refine S_x (X_box (cs := #[.int .i64 pk1, .int .i64 pn1, w1]) E S rfl rfl rfl ?_)
  clear E a S; rintro a w b_1 E S
  obtain ⟨M_2, hM_2, hb_1, S⟩ := S.freezeB
  replace h0 := h0.le RP2_mono hM_2
  replace hw1 := hw1.le hM_2
  refine S_v E rfl (R_assign E rfl) rfl ?_
  clear E a; intro a E
  refine WL_nil ?_
  refine T_n ?_
  refine WP_seq ?_
  have hb_1k2 := hb_1
  replace S := S.mono_heap (w' := World.drew _) rfl
  refine WP_drawn (C := fun x w => agree M_2 w) (bf := (fun i => [])) [0, 2, 3, 6] [0, 2, 3, 1, 4, 5, 6] Tryz.mixed (by kernel_rfl) (fun x hq => S.imm) ?_
  refine D_v E rfl rfl rfl (fun w hC => (R_move E rfl)) ?_
  clear E a; intro a E
  refine D_v E rfl rfl rfl (fun w hC => (R_loadGM E rfl (Tryz.isAgg38 _) (Tryz.sizeOf38 _) hC hb_1k2)) ?_
  clear E a; intro a E
  refine D_v E rfl rfl rfl (fun w hC => (R_makeFunc E rfl rfl)) ?_
  clear E a; intro a E
  refine D_x rfl rfl rfl (X_pu E S rfl rfl rfl (impl_mapOf h0) (Hp.le.refl _) ?_)
  clear E a S; rintro a v_4 w M_3 hM_3 hv_4 S E
  replace h0 := h0.le RP2_mono hM_3
  replace hw1 := hw1.le hM_3
  replace hb_1 := hM_3.2 _ _ hb_1
  refine ⟨fun x hq hb => (agree_le hM_3 S.imm), ?_⟩
  refine D_x rfl rfl rfl (X_pu E S rfl rfl rfl (lo_FilterKeys hv_4 ⟨rfl, fun zx1 zx2 => Pred_at (x1 := zx1) (x2 := zx2) hw1 (by omega)⟩ (by first | omega | (simp; done) | (simp; omega) | exact Nat.le_trans (mkE_len _) (by omega))) (Hp.le.refl _) ?_)
  clear E a S; rintro a v_6 w M_5 hM_5 ⟨q_7, hv_6, hpq_7⟩ S E
  replace h0 := h0.le RP2_mono hM_5
  replace hw1 := hw1.le hM_5
  replace hb_1 := hM_5.2 _ _ hb_1
  replace hv_4 := hv_4.le hM_5
  refine ⟨fun x hq hb => (agree_le (hM_3.trans hM_5) S.imm), ?_⟩
  refine D_x rfl rfl rfl (X_pu E S rfl rfl rfl (impl_sorted hv_6 (by first | omega | (simp; done) | (simp; omega) | exact Nat.le_trans (Nat.le_of_eq (List.Perm.length_eq (by assumption))) (by first | exact Nat.le_trans (flt_len _ _ _) (by omega) | (rw [List.length_map]; exact Nat.le_trans (fl_mk _ _) (by omega))) | exact Nat.le_trans (uq_len (by assumption) (by assumption)) (by rw [List.length_map]; exact Nat.le_trans (fl_mk _ _) (by omega)))) (Hp.le.refl _) ?_)
  clear E a S; rintro a v_9 w M_8 hM_8 hv_9 S E
  replace h0 := h0.le RP2_mono hM_8
  replace hw1 := hw1.le hM_8
  replace hb_1 := hM_8.2 _ _ hb_1
  replace hv_4 := hv_4.le hM_8
  replace hv_6 := hv_6.le hM_8
  refine ⟨fun x hq hb => (agree_le (hM_3.trans (hM_5.trans hM_8)) S.imm), ?_⟩
  refine D_v E rfl rfl rfl (fun w hC => (R_assign E rfl)) ?_
  clear E a; intro a E
  refine D_end (NoP_n ?_)
  refine T_n ?_
  refine WP_ret ?_
  exact F_ret1 E Tryz.results38 rfl ⟨_, rfl, M_8, (hM_2.trans (hM_3.trans (hM_5.trans hM_8))), (by rw [show (srtM (((mkE l0).filter (fun e : Int × Int => predAt pk1 pn1 pl1 e.1 e.2)).map Prod.fst)) = (srtM q_7) from by (first | exact (srtM_perm_eq (by assumption)).symm | exact srtM_perm_eq (by assumption))]; exact hv_9), S⟩

set_option maxRecDepth 100000 in
set_option maxHeartbeats 4000000 in
theorem lo_FilterValues {M : Hp} {m0 : Value} {q0 : List (Int × Int)} (hm0 : RdM M m0 (encE (Value.int .i64) q0)){v1 : Value} {f1 : Int → Int → Bool} (h1 : PF2B Tryz.prog v1 M f1) (hb : q0.length ≤ 1000000000000) :
    Pu Tryz.prog (.func (.func 75) #[] #[]) M [m0, v1] (fun r M' => ∃ p_, RdI M' r p_ ∧ p_.Perm (((q0).filter (fun e : Int × Int => f1 e.1 e.2)).map Prod.snd)) := by
  refine Pu_enter Tryz.func75 rfl Tryz.ntmps75 rfl Tryz.call75 ?_
  intro a w M1 H hM1 S E
  replace hm0 := hm0.le hM1
  replace h1 := h1.le hM1
  refine WP_seq ?_
  refine WP_region ?_
  refine S_v E rfl (R_assign E rfl) rfl ?_
  clear E a; intro a E
  refine WL_nil ?_
  refine T_n ?_
  refine WP_seq ?_
  refine WP_region ?_
  refine S_x (X_make0 (k := 0) E S rfl rfl rfl T22 rfl (by omega) (by omega) (by omega) ?_)
  clear E a S; rintro a w v_1 E S
  replace S := S.made0
  refine S_v E rfl (R_assign E rfl) rfl ?_
  clear E a; intro a E
  refine WL_nil ?_
  refine T_n ?_
  refine WP_seq ?_
  refine WP_seq ?_
  refine WP_region ?_
  refine S_v E rfl (R_move E rfl) rfl ?_
  clear E a; intro a E
  refine S_x (X_range E S rfl MT63 hm0 rfl ?_)
  clear E a S; rintro a w i_2 es_3 ck_4 E hf_5 S
  replace S : St w M1 (ItO m0 es_3 ck_4 i_2 (encE (Value.int .i64) ([] : List (Int × Int))) :: _) := S
  refine WL_nil ?_
  refine T_n ?_
  refine WP_block ?_
  replace S := S.front1
  replace S := S.front1
  replace S := S.front1
  replace S := S.re1 (l' := (([] : List (Int × Int)).filter (fun e : Int × Int => f1 e.1 e.2)).map Prod.snd) (by first | rfl | (simp; done) | exact flk_yes (F := (fun e : Int × Int => f1 e.1 e.2)) (g := Prod.snd) (e := (_, _)) (by assumption) | exact flk_no (F := (fun e : Int × Int => f1 e.1 e.2)) (g := Prod.snd) (e := (_, _)) (by assumption))
  replace S := S.front1
  refine WP_loop (γ := List (Int × Int)) (fun (p : List (Int × Int)) a w => ∃ (M_6 : Hp) (u5 : Value), Hp.le M1 M_6 ∧ St w M_6 (ItO m0 es_3 ck_4 i_2 (encE (Value.int .i64) p) :: OwnI 3 u5 ((p.filter (fun e : Int × Int => f1 e.1 e.2)).map Prod.snd) :: H) ∧ Env a 25 [] [(1, v1), (5, u5), (10, .pointer (some ⟨i_2, 0, none⟩))] ∧ ((p.map Prod.fst).Nodup) ∧ (∀ z ∈ p, z ∈ q0) ∧ (p.length ≤ q0.length)) (fun p => q0.length - p.length) ([] : List (Int × Int)) ⟨M1, _, Hp.le.refl _, S, E.keep ⟨rfl, rfl, rfl, trivial⟩, (by simp), (by simp), (by simp)⟩ ?_
  try clear E
  try clear S
  try clear a
  try clear w
  rintro p a w ⟨M_6, u5, hM_6, S, E, hL0_0, hL0_1, hL0_2⟩
  replace hm0 := hm0.le hM_6
  replace h1 := h1.le hM_6
  replace hf_5 := hf_5.le hM_6
  have hff := List.length_filter_le (fun e : Int × Int => f1 e.1 e.2) p
  refine WP_seq ?_
  refine WP_region ?_
  refine S_x (X_nextE (vf := (Value.int .i64)) E S rfl hf_5 rfl (by assumption) (by assumption) ?_ ?_)
  · clear E a S; rintro a E hpm_7 S
    refine S_v E rfl (R_extract E rfl rfl) rfl ?_
    clear E a; intro a E
    refine WL_nil ?_
    refine T_n ?_
    refine WP_seq ?_
    refine WP_condF E rfl rfl ?_
    refine WP_exit ?_
    refine T_x ?_
    refine T_x ?_
    refine B_x ?_
    refine T_n ?_
    refine WP_seq ?_
    refine WP_region ?_
    refine S_v E rfl (R_move E rfl) rfl ?_
    clear E a; intro a E
    refine S_v E rfl (R_assign E rfl) rfl ?_
    clear E a; intro a E
    refine WL_nil ?_
    refine T_n ?_
    refine WP_ret ?_
    replace S := S.front1
    have S0 := S; clear S
    obtain ⟨M_8, hM_8, hz_9, S⟩ := S0.freezeI (by (have hff := List.length_filter_le (fun e : Int × Int => f1 e.1 e.2) p; simp only [List.length_map] at *; omega))
    clear S0
    replace hm0 := hm0.le hM_8
    replace h1 := h1.le hM_8
    replace hf_5 := hf_5.le hM_8
    exact F_ret1 E Tryz.results75 rfl ⟨_, rfl, M_8, (hM_6.trans hM_8), ⟨_, hz_9, by (exact List.Perm.map _ (List.Perm.filter _ (by assumption)))⟩, S.drop⟩
  · clear E a S w; rintro a w k_10 u_12 E hk_11 hk_11n hk_11l S
    refine S_v E rfl (R_extract E rfl rfl) rfl ?_
    clear E a; intro a E
    refine WL_nil ?_
    refine T_n ?_
    refine WP_seq ?_
    refine WP_condT E rfl rfl ?_
    refine WP_skip ?_
    refine T_n ?_
    refine WP_block ?_
    refine WP_seq ?_
    refine WP_region ?_
    refine S_v E rfl (R_entry (k := k_10) (v := .int .i64 u_12) E (by have S1 := S; simp only [encE, List.map_append, List.map_cons, List.map_nil] at S1; exact S1) hf_5 rfl) rfl ?_
    clear E a; intro a E
    refine S_v E rfl (R_extract E rfl rfl) rfl ?_
    clear E a; intro a E
    refine S_v E rfl (R_extract E rfl rfl) rfl ?_
    clear E a; intro a E
    refine S_v E rfl (R_assign E rfl) rfl ?_
    clear E a; intro a E
    refine S_v E rfl (R_assign E rfl) rfl ?_
    clear E a; intro a E
    refine WL_nil ?_
    refine T_n ?_
    refine WP_seq ?_
    refine WP_region ?_
    refine S_v E rfl (R_move E rfl) rfl ?_
    clear E a; intro a E
    refine S_v E rfl (R_move E rfl) rfl ?_
    clear E a; intro a E
    refine S_v E rfl (R_move E rfl) rfl ?_
    clear E a; intro a E
    refine S_x (X_pu E S rfl rfl rfl (h1.2 k_10 u_12) (Hp.le.refl _) ?_)
    clear E a S; rintro a _ w M_13 hM_13 rfl S E
    replace hm0 := hm0.le hM_13
    replace h1 := h1.le hM_13
    replace hf_5 := hf_5.le hM_13
    refine WL_nil ?_
    refine T_n ?_
    refine WP_cond E rfl (fun hc_14 => ?_) (fun hc_14 => ?_)
    · refine WP_region ?_
      refine S_v E rfl (R_move E rfl) rfl ?_
      clear E a; intro a E
      refine S_v E rfl (R_move E rfl) rfl ?_
      clear E a; intro a E
      refine S_x (X_buildI (ys := [u_12]) E S rfl T22 rfl rfl rfl ?_)
      clear E a S; rintro a w v_15 E S
      replace S := S.front2
      replace S := S.front1
      refine S_x (X_appendB (xs := (p.filter (fun e : Int × Int => f1 e.1 e.2)).map Prod.snd) (ys := [u_12]) E S rfl rfl rfl T22 (by (simp only [List.length_cons, List.length_nil, List.length_map] at *; omega)) ?_)
      clear E a S; rintro a w v_16 E S
      refine S_v E rfl (R_assign E rfl) rfl ?_
      clear E a; intro a E
      refine WL_nil ?_
      refine B_n ?_
      refine T_n ?_
      replace S := S.front1
      replace S := S.front1
      replace S := S.re1 (l' := ((p ++ [(k_10, u_12)]).filter (fun e : Int × Int => f1 e.1 e.2)).map Prod.snd) (by first | rfl | (simp; done) | exact flk_yes (F := (fun e : Int × Int => f1 e.1 e.2)) (g := Prod.snd) (e := (_, _)) (by assumption) | exact flk_no (F := (fun e : Int × Int => f1 e.1 e.2)) (g := Prod.snd) (e := (_, _)) (by assumption))
      replace S := S.front1
      replace S := S.reIt (p' := (encE (Value.int .i64) (p ++ [(k_10, u_12)]))) (congrArg (encE (Value.int .i64)) (show p ++ [(k_10, u_12)] = (p ++ [(k_10, u_12)]) by first | rfl | (simp; done) | exact flk_yes (F := (fun e : Int × Int => f1 e.1 e.2)) (g := Prod.snd) (e := (_, _)) (by assumption) | exact flk_no (F := (fun e : Int × Int => f1 e.1 e.2)) (g := Prod.snd) (e := (_, _)) (by assumption)))
      exact ⟨(p ++ [(k_10, u_12)]), ⟨M_13, _, (hM_6.trans hM_13), S, E.keep ⟨rfl, rfl, rfl, trivial⟩, (by exact snocNk (by assumption) (by assumption)), (by exact snocSk (by assumption) (by assumption)), (by simp; omega)⟩, (by simp; omega)⟩
    · refine WP_skip ?_
      refine B_n ?_
      refine T_n ?_
      replace S := S.front1
      replace S := S.re1 (l' := ((p ++ [(k_10, u_12)]).filter (fun e : Int × Int => f1 e.1 e.2)).map Prod.snd) (by first | rfl | (simp; done) | exact flk_yes (F := (fun e : Int × Int => f1 e.1 e.2)) (g := Prod.snd) (e := (_, _)) (by assumption) | exact flk_no (F := (fun e : Int × Int => f1 e.1 e.2)) (g := Prod.snd) (e := (_, _)) (by assumption))
      replace S := S.front1
      replace S := S.reIt (p' := (encE (Value.int .i64) (p ++ [(k_10, u_12)]))) (congrArg (encE (Value.int .i64)) (show p ++ [(k_10, u_12)] = (p ++ [(k_10, u_12)]) by first | rfl | (simp; done) | exact flk_yes (F := (fun e : Int × Int => f1 e.1 e.2)) (g := Prod.snd) (e := (_, _)) (by assumption) | exact flk_no (F := (fun e : Int × Int => f1 e.1 e.2)) (g := Prod.snd) (e := (_, _)) (by assumption)))
      exact ⟨(p ++ [(k_10, u_12)]), ⟨M_13, _, (hM_6.trans hM_13), S, E.keep ⟨rfl, rfl, rfl, trivial⟩, (by exact snocNk (by assumption) (by assumption)), (by exact snocSk (by assumption) (by assumption)), (by simp; omega)⟩, (by simp; omega)⟩

set_option maxRecDepth 100000 in
set_option maxHeartbeats 4000000 in
theorem impl_FilterValues {M : Hp} {v0 : Value} {l0 : List (Int × Int)} (h0 : RdS 2 RP2 M v0 l0){pk1 pn1 : Int} {w1 : Value} {pl1 : List Int} (hw1 : RdI M w1 pl1) (gn1 : -9223372036854775808 ≤ pn1 ∧ pn1 ≤ 9223372036854775807) (hb : l0.length ≤ 1000000000000) :
    Pu Tryz.prog (.func (.func 39) #[] #[]) M [v0, .agg #[.int .i64 pk1, .int .i64 pn1, w1]] (fun r M' => RdI M' r (srtM (((mkE l0).filter (fun e : Int × Int => predAt pk1 pn1 pl1 e.1 e.2)).map Prod.snd))) := by
  refine Pu_enter Tryz.func39 rfl Tryz.ntmps39 rfl Tryz.call39 ?_
  intro a w M1 H hM1 S E
  replace h0 := h0.le RP2_mono hM1
  replace hw1 := hw1.le hM1
  have b0 := h0.bound
  refine WP_seq ?_
  refine WP_region ?_
  refine S_x (X_box (cs := #[.int .i64 pk1, .int .i64 pn1, w1]) E S rfl rfl rfl ?_)
  clear E a S; rintro a w b_1 E S
  obtain ⟨M_2, hM_2, hb_1, S⟩ := S.freezeB
  replace h0 := h0.le RP2_mono hM_2
  replace hw1 := hw1.le hM_2
  refine S_v E rfl (R_assign E rfl) rfl ?_
  clear E a; intro a E
  refine WL_nil ?_
  refine T_n ?_
  refine WP_seq ?_
  have hb_1k2 := hb_1
  replace S := S.mono_heap (w' := World.drew _) rfl
  refine WP_drawn (C := fun x w => agree M_2 w) (bf := (fun i => [])) [0, 2, 3, 6] [0, 2, 3, 1, 4, 5, 6] Tryz.mixed (by kernel_rfl) (fun x hq => S.imm) ?_
  refine D_v E rfl rfl rfl (fun w hC => (R_move E rfl)) ?_
  clear E a; intro a E
  refine D_v E rfl rfl rfl (fun w hC => (R_loadGM E rfl (Tryz.isAgg38 _) (Tryz.sizeOf38 _) hC hb_1k2)) ?_
  clear E a; intro a E
  refine D_v E rfl rfl rfl (fun w hC => (R_makeFunc E rfl rfl)) ?_
  clear E a; intro a E
  refine D_x rfl rfl rfl (X_pu E S rfl rfl rfl (impl_mapOf h0) (Hp.le.refl _) ?_)
  clear E a S; rintro a v_4 w M_3 hM_3 hv_4 S E
  replace h0 := h0.le RP2_mono hM_3
  replace hw1 := hw1.le hM_3
  replace hb_1 := hM_3.2 _ _ hb_1
  refine ⟨fun x hq hb => (agree_le hM_3 S.imm), ?_⟩
  refine D_x rfl rfl rfl (X_pu E S rfl rfl rfl (lo_FilterValues hv_4 ⟨rfl, fun zx1 zx2 => Pred_at (x1 := zx1) (x2 := zx2) hw1 (by omega)⟩ (by first | omega | (simp; done) | (simp; omega) | exact Nat.le_trans (mkE_len _) (by omega))) (Hp.le.refl _) ?_)
  clear E a S; rintro a v_6 w M_5 hM_5 ⟨q_7, hv_6, hpq_7⟩ S E
  replace h0 := h0.le RP2_mono hM_5
  replace hw1 := hw1.le hM_5
  replace hb_1 := hM_5.2 _ _ hb_1
  replace hv_4 := hv_4.le hM_5
  refine ⟨fun x hq hb => (agree_le (hM_3.trans hM_5) S.imm), ?_⟩
  refine D_x rfl rfl rfl (X_pu E S rfl rfl rfl (impl_sorted hv_6 (by first | omega | (simp; done) | (simp; omega) | exact Nat.le_trans (Nat.le_of_eq (List.Perm.length_eq (by assumption))) (by first | exact Nat.le_trans (flt_len _ _ _) (by omega) | (rw [List.length_map]; exact Nat.le_trans (fl_mk _ _) (by omega))) | exact Nat.le_trans (uq_len (by assumption) (by assumption)) (by rw [List.length_map]; exact Nat.le_trans (fl_mk _ _) (by omega)))) (Hp.le.refl _) ?_)
  clear E a S; rintro a v_9 w M_8 hM_8 hv_9 S E
  replace h0 := h0.le RP2_mono hM_8
  replace hw1 := hw1.le hM_8
  replace hb_1 := hM_8.2 _ _ hb_1
  replace hv_4 := hv_4.le hM_8
  replace hv_6 := hv_6.le hM_8
  refine ⟨fun x hq hb => (agree_le (hM_3.trans (hM_5.trans hM_8)) S.imm), ?_⟩
  refine D_v E rfl rfl rfl (fun w hC => (R_assign E rfl)) ?_
  clear E a; intro a E
  refine D_end (NoP_n ?_)
  refine T_n ?_
  refine WP_ret ?_
  exact F_ret1 E Tryz.results39 rfl ⟨_, rfl, M_8, (hM_2.trans (hM_3.trans (hM_5.trans hM_8))), (by rw [show (srtM (((mkE l0).filter (fun e : Int × Int => predAt pk1 pn1 pl1 e.1 e.2)).map Prod.snd)) = (srtM q_7) from by (first | exact (srtM_perm_eq (by assumption)).symm | exact srtM_perm_eq (by assumption))]; exact hv_9), S⟩

set_option maxRecDepth 100000 in
set_option maxHeartbeats 4000000 in
theorem laws_count {M : Hp} {v0 : Value} {l0 : List Int} (h0 : RdI M v0 l0){x1 : Int} :
    Pu Tryz.prog (.func (.func 8) #[] #[]) M [v0, .int .i64 x1] (fun r M' => r = .int .i64 (((l0).count x1 : Nat) : Int)) := by
  refine Pu_enter Tryz.func8 rfl Tryz.ntmps8 rfl Tryz.call8 ?_
  intro a w M1 H hM1 S E
  replace h0 := h0.le hM1
  have b0 := h0.bound
  have c0 := List.count_le_length (a := x1) (l := l0)
  refine WP_seq ?_
  refine WP_region ?_
  refine S_v E rfl (R_assign E rfl) rfl ?_
  clear E a; intro a E
  refine WL_nil ?_
  refine T_n ?_
  refine WP_seq ?_
  refine WP_region ?_
  refine S_v E rfl (R_assign E rfl) rfl ?_
  clear E a; intro a E
  refine WL_nil ?_
  refine T_n ?_
  refine WP_seq ?_
  refine WP_seq ?_
  refine WP_region ?_
  refine S_v E rfl (R_move E rfl) rfl ?_
  clear E a; intro a E
  refine S_v E rfl (R_lenV E rfl T22 h0.len) rfl ?_
  clear E a; intro a E
  refine S_v E rfl (R_move E rfl) rfl ?_
  clear E a; intro a E
  refine WL_nil ?_
  refine T_n ?_
  refine WP_block ?_
  refine WP_loop (γ := Nat) (fun (k : Nat) a w => ∃ (M_1 : Hp), Hp.le M1 M_1 ∧ St w M_1 (H) ∧ Env a 21 [] [(1, .int .i64 x1), (5, .int .i64 (((l0.take k).count x1 : Nat) : Int)), (8, v0), (9, .int .i64 (((l0).length : Nat) : Int)), (10, .int .i64 ((k : Nat) : Int))] ∧ (k ≤ (l0).length)) (fun k => ((l0).length) - k) 0 ⟨M1, Hp.le.refl _, S, E.keep ⟨rfl, look_nat (i := 0) rfl (by ((try clear S); (try clear E); first | assumption | omega | rfl | (simp; done) | (simp_all; done) | (simp [List.take_add_one, *]; done) | grind [List.take_add_one])), rfl, rfl, rfl, trivial⟩, by ((try clear S); (try clear E); first | assumption | omega | rfl | (simp; done) | (simp_all; done) | (simp [List.take_add_one, *]; done) | grind [List.take_add_one])⟩ ?_
  try clear E
  try clear S
  try clear a
  try clear w
  rintro k a w ⟨M_1, hM_1, S, E, hL0_0⟩
  replace h0 := h0.le hM_1
  have c1 := List.count_le_length (a := x1) (l := l0.take k)
  simp only [List.length_take] at c1
  refine WP_seq ?_
  refine WP_region ?_
  refine S_v E rfl (R_lss E rfl rfl) rfl ?_
  clear E a; intro a E
  refine WL_nil ?_
  refine T_n ?_
  refine WP_seq ?_
  refine WP_cond E rfl (fun hc_2 => ?_) (fun hc_2 => ?_)
  · replace hc_2 := of_decide_eq_true hc_2
    refine WP_skip ?_
    refine T_n ?_
    refine WP_seq ?_
    refine WP_block ?_
    refine WP_seq ?_
    refine WP_region ?_
    obtain ⟨x_3, hx_3⟩ : ∃ x, (l0)[k]? = some x := ⟨_, List.getElem?_eq_getElem (by first | omega | (simp; done) | (simp; omega) | (simp_all; omega))⟩
    obtain ⟨p_4, hp_4, qp_4⟩ := h0.at hx_3
    refine S_v E rfl (R_idx E rfl rfl T22 hp_4 rfl) rfl ?_
    clear E a; intro a E
    refine S_v E rfl (R_loadM E rfl Tryz.isAgg3 S.imm qp_4) rfl ?_
    clear E a; intro a E
    refine S_v E rfl (R_assign E rfl) rfl ?_
    clear E a; intro a E
    refine WL_nil ?_
    refine T_n ?_
    refine WP_seq ?_
    refine WP_region ?_
    refine S_v E rfl (R_move E rfl) rfl ?_
    clear E a; intro a E
    refine S_v E rfl (R_move E rfl) rfl ?_
    clear E a; intro a E
    refine S_v E rfl (R_eql E rfl rfl) rfl ?_
    clear E a; intro a E
    refine WL_nil ?_
    refine T_n ?_
    refine WP_cond E rfl (fun hc_5 => ?_) (fun hc_5 => ?_)
    · replace hc_5 := of_decide_eq_true hc_5
      refine WP_region ?_
      refine S_v E rfl (R_move E rfl) rfl ?_
      clear E a; intro a E
      refine S_v E rfl (R_addx (m := (((l0.take k).count x1 + 1 : Nat) : Int)) E rfl rfl (by omega) (by omega)) rfl ?_
      clear E a; intro a E
      refine S_v E rfl (R_assign E rfl) rfl ?_
      clear E a; intro a E
      refine WL_nil ?_
      refine B_n ?_
      refine T_n ?_
      refine WP_region ?_
      refine S_v E rfl (R_addx (m := ((k + 1 : Nat) : Int)) E rfl rfl (by omega) (by omega)) rfl ?_
      clear E a; intro a E
      refine S_v E rfl (R_move E rfl) rfl ?_
      clear E a; intro a E
      refine WL_nil ?_
      refine T_n ?_
      exact ⟨k + 1, ⟨M_1, hM_1, S, E.keep ⟨rfl, look_nat (i := (l0.take k).count x1 + 1) rfl (by ((try clear S); (try clear E); first | assumption | omega | rfl | (simp; done) | (simp_all; done) | (simp [List.take_add_one, *]; done) | grind [List.take_add_one])), rfl, rfl, rfl, trivial⟩, by ((try clear S); (try clear E); first | assumption | omega | rfl | (simp; done) | (simp_all; done) | (simp [List.take_add_one, *]; done) | grind [List.take_add_one])⟩, by omega⟩
    · replace hc_5 := of_decide_eq_false hc_5
      refine WP_skip ?_
      refine B_n ?_
      refine T_n ?_
      refine WP_region ?_
      refine S_v E rfl (R_addx (m := ((k + 1 : Nat) : Int)) E rfl rfl (by omega) (by omega)) rfl ?_
      clear E a; intro a E
      refine S_v E rfl (R_move E rfl) rfl ?_
      clear E a; intro a E
      refine WL_nil ?_
      refine T_n ?_
      exact ⟨k + 1, ⟨M_1, hM_1, S, E.keep ⟨rfl, look_nat (i := (l0.take k).count x1) rfl (by ((try clear S); (try clear E); first | assumption | omega | rfl | (simp; done) | (simp_all; done) | (simp [List.take_add_one, *]; done) | grind [List.take_add_one])), rfl, rfl, rfl, trivial⟩, by ((try clear S); (try clear E); first | assumption | omega | rfl | (simp; done) | (simp_all; done) | (simp [List.take_add_one, *]; done) | grind [List.take_add_one])⟩, by omega⟩
  · replace hc_2 := of_decide_eq_false hc_2
    refine WP_exit ?_
    refine T_x ?_
    refine T_x ?_
    refine B_x ?_
    refine T_n ?_
    refine WP_seq ?_
    refine WP_region ?_
    refine S_v E rfl (R_move E rfl) rfl ?_
    clear E a; intro a E
    refine S_v E rfl (R_assign E rfl) rfl ?_
    clear E a; intro a E
    refine WL_nil ?_
    refine T_n ?_
    refine WP_ret ?_
    exact F_ret1 E Tryz.results8 rfl ⟨_, rfl, M_1, hM_1, (congrArg (Value.int .i64) (by ((try clear S); (try clear E); first | assumption | omega | rfl | (simp; done) | (simp_all; done) | (simp [List.take_add_one, *]; done) | grind [List.take_add_one]))), S⟩

set_option maxRecDepth 100000 in
set_option maxHeartbeats 4000000 in
theorem laws_same {M : Hp} {v0 v1 : Value} {l0 l1 : List Int} (h0 : RdI M v0 l0) (h1 : RdI M v1 l1) :
    Pu Tryz.prog (.func (.func 20) #[] #[]) M [v0, v1] (fun r M' => r = .bool (decide (l0.length = l1.length ∧ ∀ x ∈ l0, l0.count x = l1.count x))) := by
  refine Pu_enter Tryz.func20 rfl Tryz.ntmps20 rfl Tryz.call20 ?_
  intro a w M1 H hM1 S E
  replace h0 := h0.le hM1
  replace h1 := h1.le hM1
  have b0 := h0.bound
  have b1 := h1.bound
  refine WP_seq ?_
  refine WP_region ?_
  refine S_v E rfl (R_assign E rfl) rfl ?_
  clear E a; intro a E
  refine WL_nil ?_
  refine T_n ?_
  refine WP_seq ?_
  refine WP_seq ?_
  refine WP_region ?_
  refine S_v E rfl (R_move E rfl) rfl ?_
  clear E a; intro a E
  refine S_v E rfl (R_lenV E rfl T22 h0.len) rfl ?_
  clear E a; intro a E
  refine S_v E rfl (R_move E rfl) rfl ?_
  clear E a; intro a E
  refine S_v E rfl (R_lenV E rfl T22 h1.len) rfl ?_
  clear E a; intro a E
  refine S_v E rfl (R_neq E rfl rfl) rfl ?_
  clear E a; intro a E
  refine WL_nil ?_
  refine T_n ?_
  refine WP_cond E rfl (fun hc_1 => ?_) (fun hc_1 => ?_)
  · replace hc_1 := of_decide_eq_true hc_1
    refine WP_seq ?_
    refine WP_region ?_
    refine S_v E rfl (R_assign E rfl) rfl ?_
    clear E a; intro a E
    refine WL_nil ?_
    refine T_n ?_
    refine WP_ret ?_
    refine T_r ?_
    exact F_ret1 E Tryz.results20 rfl ⟨_, rfl, M1, (Hp.le.refl _), (bF (by ((try clear S); (try clear E); first | assumption | omega | rfl | (simp; done) | (simp_all; done) | (simp [List.take_add_one, *]; done) | grind [List.take_add_one]))), S⟩
  · replace hc_1 := of_decide_eq_false hc_1
    refine WP_skip ?_
    refine T_n ?_
    refine WP_seq ?_
    refine WP_seq ?_
    refine WP_region ?_
    refine S_v E rfl (R_move E rfl) rfl ?_
    clear E a; intro a E
    refine S_v E rfl (R_lenV E rfl T22 h0.len) rfl ?_
    clear E a; intro a E
    refine S_v E rfl (R_move E rfl) rfl ?_
    clear E a; intro a E
    refine WL_nil ?_
    refine T_n ?_
    refine WP_block ?_
    refine WP_loop (γ := Nat) (fun (k : Nat) a w => ∃ (M_2 : Hp), Hp.le M1 M_2 ∧ St w M_2 (H) ∧ Env a 26 [] [(0, v0), (1, v1), (12, v0), (13, .int .i64 (((l0).length : Nat) : Int)), (14, .int .i64 ((k : Nat) : Int))] ∧ (k ≤ (l0).length) ∧ (l0.length = l1.length) ∧ (∀ x ∈ l0.take k, l0.count x = l1.count x)) (fun k => ((l0).length) - k) 0 ⟨M1, Hp.le.refl _, S, E.keep ⟨rfl, rfl, rfl, rfl, rfl, trivial⟩, by ((try clear S); (try clear E); first | assumption | omega | rfl | (simp; done) | (simp_all; done) | (simp [List.take_add_one, *]; done) | grind [List.take_add_one]), by ((try clear S); (try clear E); first | assumption | omega | rfl | (simp; done) | (simp_all; done) | (simp [List.take_add_one, *]; done) | grind [List.take_add_one]), by ((try clear S); (try clear E); first | assumption | omega | rfl | (simp; done) | (simp_all; done) | (simp [List.take_add_one, *]; done) | grind [List.take_add_one])⟩ ?_
    try clear E
    try clear S
    try clear a
    try clear w
    rintro k a w ⟨M_2, hM_2, S, E, hL0_0, hL0_1, hL0_2⟩
    replace h0 := h0.le hM_2
    replace h1 := h1.le hM_2
    refine WP_seq ?_
    refine WP_region ?_
    refine S_v E rfl (R_lss E rfl rfl) rfl ?_
    clear E a; intro a E
    refine WL_nil ?_
    refine T_n ?_
    refine WP_seq ?_
    refine WP_cond E rfl (fun hc_3 => ?_) (fun hc_3 => ?_)
    · replace hc_3 := of_decide_eq_true hc_3
      refine WP_skip ?_
      refine T_n ?_
      refine WP_seq ?_
      refine WP_block ?_
      refine WP_seq ?_
      refine WP_region ?_
      obtain ⟨x_4, hx_4⟩ : ∃ x, (l0)[k]? = some x := ⟨_, List.getElem?_eq_getElem (by first | omega | (simp; done) | (simp; omega) | (simp_all; omega))⟩
      obtain ⟨p_5, hp_5, qp_5⟩ := h0.at hx_4
      refine S_v E rfl (R_idx E rfl rfl T22 hp_5 rfl) rfl ?_
      clear E a; intro a E
      refine S_v E rfl (R_loadM E rfl Tryz.isAgg3 S.imm qp_5) rfl ?_
      clear E a; intro a E
      refine S_v E rfl (R_assign E rfl) rfl ?_
      clear E a; intro a E
      refine WL_nil ?_
      refine T_n ?_
      refine WP_seq ?_
      refine WP_region ?_
      refine S_v E rfl (R_move E rfl) rfl ?_
      clear E a; intro a E
      refine S_v E rfl (R_move E rfl) rfl ?_
      clear E a; intro a E
      refine S_x (X_pu E S rfl rfl rfl (laws_count h0) (Hp.le.refl _) ?_)
      clear E a S; rintro a _ w M_6 hM_6 rfl S E
      replace h0 := h0.le hM_6
      replace h1 := h1.le hM_6
      refine S_v E rfl (R_move E rfl) rfl ?_
      clear E a; intro a E
      refine S_v E rfl (R_move E rfl) rfl ?_
      clear E a; intro a E
      refine S_x (X_pu E S rfl rfl rfl (laws_count h1) (Hp.le.refl _) ?_)
      clear E a S; rintro a _ w M_7 hM_7 rfl S E
      replace h0 := h0.le hM_7
      replace h1 := h1.le hM_7
      refine S_v E rfl (R_neq E rfl rfl) rfl ?_
      clear E a; intro a E
      refine WL_nil ?_
      refine T_n ?_
      refine WP_cond E rfl (fun hc_8 => ?_) (fun hc_8 => ?_)
      · replace hc_8 := of_decide_eq_true hc_8
        refine WP_seq ?_
        refine WP_region ?_
        refine S_v E rfl (R_assign E rfl) rfl ?_
        clear E a; intro a E
        refine WL_nil ?_
        refine T_n ?_
        refine WP_ret ?_
        refine B_r ?_
        refine T_r ?_
        refine T_r ?_
        refine B_r ?_
        refine T_r ?_
        exact F_ret1 E Tryz.results20 rfl ⟨_, rfl, M_7, (hM_2.trans (hM_6.trans hM_7)), (bF (by ((try clear S); (try clear E); first | assumption | omega | rfl | (simp; done) | (simp_all; done) | (simp [List.take_add_one, *]; done) | grind [List.take_add_one]))), S⟩
      · replace hc_8 := of_decide_eq_false hc_8
        refine WP_skip ?_
        refine B_n ?_
        refine T_n ?_
        refine WP_region ?_
        refine S_v E rfl (R_addx (m := ((k + 1 : Nat) : Int)) E rfl rfl (by omega) (by omega)) rfl ?_
        clear E a; intro a E
        refine S_v E rfl (R_move E rfl) rfl ?_
        clear E a; intro a E
        refine WL_nil ?_
        refine T_n ?_
        exact ⟨k + 1, ⟨M_7, (hM_2.trans (hM_6.trans hM_7)), S, E.keep ⟨rfl, rfl, rfl, rfl, rfl, trivial⟩, by ((try clear S); (try clear E); first | assumption | omega | rfl | (simp; done) | (simp_all; done) | (simp [List.take_add_one, *]; done) | grind [List.take_add_one]), by ((try clear S); (try clear E); first | assumption | omega | rfl | (simp; done) | (simp_all; done) | (simp [List.take_add_one, *]; done) | grind [List.take_add_one]), by ((try clear S); (try clear E); first | assumption | omega | rfl | (simp; done) | (simp_all; done) | (simp [List.take_add_one, *]; done) | grind [List.take_add_one])⟩, by omega⟩
    · replace hc_3 := of_decide_eq_false hc_3
      refine WP_exit ?_
      refine T_x ?_
      refine T_x ?_
      refine B_x ?_
      refine T_n ?_
      refine WP_seq ?_
      refine WP_region ?_
      refine S_v E rfl (R_assign E rfl) rfl ?_
      clear E a; intro a E
      refine WL_nil ?_
      refine T_n ?_
      refine WP_ret ?_
      exact F_ret1 E Tryz.results20 rfl ⟨_, rfl, M_2, hM_2, (bT (by ((try clear S); (try clear E); first | assumption | omega | rfl | (simp; done) | (simp_all; done) | (simp [List.take_add_one, *]; done) | grind [List.take_add_one]))), S⟩

end Go.Proofs.YtahbobhbookehaaGreat.wFnKeysValues
