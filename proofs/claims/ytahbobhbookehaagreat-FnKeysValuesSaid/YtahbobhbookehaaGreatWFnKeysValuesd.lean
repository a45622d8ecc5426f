/- Walks through the functions that laws.FnKeysValues reaches: what each computes; no conditions beyond what each theorem states. -/
import Derived.Test.YtahbobhbookehaaGreatWFnKeysValuesc
set_option linter.unusedVariables false
set_option linter.unusedSimpArgs false
namespace Go.Proofs.YtahbobhbookehaaGreat.wFnKeysValues
open Go Go.Sl
set_option maxRecDepth 100000 in
set_option maxHeartbeats 4000000 in
theorem spec_Entries {M : Hp} {v0 : Value} {l0 : List (Int × Int)} (h0 : RdS 2 RP2 M v0 l0) (hb : l0.length ≤ 1000000000000) :
    Pu Tryz.prog (.func (.func 76) #[] #[]) M [v0] (fun r M' => RdS 2 RP2 M' r (entE l0)) := by
  refine Pu_enter Tryz.func76 rfl Tryz.ntmps76 rfl Tryz.call76 ?_
  intro a w M1 H hM1 S E
  replace h0 := h0.le RP2_mono hM1
  have b0 := h0.bound
  refine WP_seq ?_
  refine WP_region ?_
  refine S_v E rfl (R_assign E rfl) rfl ?_
  clear E a; intro a E
  refine WL_nil ?_
  refine T_n ?_
  refine WP_seq ?_
  refine WP_region ?_
  refine S_v E rfl (R_assign E rfl) rfl ?_
  clear E a; intro a E
  refine WL_nil ?_
  refine T_n ?_
  refine WP_seq ?_
  refine WP_seq ?_
  refine WP_region ?_
  refine S_v E rfl (R_move E rfl) rfl ?_
  clear E a; intro a E
  refine S_v E rfl (R_lenV E rfl T32 h0.len) rfl ?_
  clear E a; intro a E
  refine S_v E rfl (R_move E rfl) rfl ?_
  clear E a; intro a E
  refine WL_nil ?_
  refine T_n ?_
  refine WP_block ?_
  refine WP_loop (γ := Nat) (fun (k : Nat) a w => ∃ (M_1 : Hp) (u3 : Value), Hp.le M1 M_1 ∧ St w M_1 (H) ∧ Env a 67 [] [(0, v0), (3, u3), (10, v0), (11, .int .i64 (((l0).length : Nat) : Int)), (12, .int .i64 ((k : Nat) : Int))] ∧ (k ≤ (l0).length) ∧ RdS 2 RP2 M_1 u3 (srtK Prod.fst (lastsT (l0.drop k) (l0.take k)))) (fun k => ((l0).length) - k) 0 ⟨M1, _, Hp.le.refl _, S, E.keep ⟨rfl, rfl, rfl, rfl, rfl, trivial⟩, by ((try clear S); (try clear E); first | assumption | omega | rfl | (simp; done) | (simp_all; done) | (simp [List.take_add_one, *]; done) | grind [List.take_add_one]), (SLeqR (RdS.nil _) (by simp [lastsT, srtK]))⟩ ?_
  try clear E
  try clear S
  try clear a
  try clear w
  rintro k a w ⟨M_1, u3, hM_1, S, E, hL0_0, hs3_0⟩
  replace h0 := h0.le RP2_mono hM_1
  have hll := lastsT_len (l0.drop k) (l0.take k)
  rw [List.length_take] at hll
  have hsl := srtK_len Prod.fst (lastsT (l0.drop k) (l0.take k))
  refine WP_seq ?_
  refine WP_region ?_
  refine S_v E rfl (R_lss E rfl rfl) rfl ?_
  clear E a; intro a E
  refine WL_nil ?_
  refine T_n ?_
  refine WP_seq ?_
  refine WP_cond E rfl (fun hc_2 => ?_) (fun hc_2 => ?_)
  · replace hc_2 := of_decide_eq_true hc_2
    refine WP_skip ?_
    refine T_n ?_
    refine WP_seq ?_
    refine WP_block ?_
    refine WP_seq ?_
    refine WP_region ?_
    refine S_v E rfl (R_move E rfl) rfl ?_
    clear E a; intro a E
    obtain ⟨x_3, hx_3⟩ : ∃ x, (l0)[k]? = some x := ⟨_, List.getElem?_eq_getElem (by first | omega | (simp; done) | (simp; omega) | (simp_all; omega))⟩
    obtain ⟨p_4, hp_4, qp_4⟩ := RdP2.at h0 hx_3
    refine S_v E rfl (R_idx E rfl rfl T32 hp_4 rfl) rfl ?_
    clear E a; intro a E
    refine S_v E rfl (R_loadA (cs := [.int .i64 x_3.1, .int .i64 x_3.2]) E rfl (Tryz.isAgg55 _) (Tryz.sizeOf55 _) S.imm qp_4) rfl ?_
    clear E a; intro a E
    refine S_x (X_alloc (cs := #[.int .i64 0, .int .i64 0]) E S rfl Tryz.zeroValue55 rfl ?_)
    clear E a S; rintro a w b_5 E S
    refine S_v E rfl (R_assign E rfl) rfl ?_
    clear E a; intro a E
    refine S_x0 (X_storeG (us := [.int .i64 x_3.1, .int .i64 x_3.2]) E S rfl rfl (Tryz.sizeOf55 _) rfl (by intro u hu; simp only [List.mem_cons, List.not_mem_nil, or_false] at hu; rcases hu with rfl | rfl <;> first | exact rfl | exact rfl) ?_)
    clear E a S; rintro a w E S
    replace S : St w M_1 (blk b_5 (.cells #[.int .i64 x_3.1, .int .i64 x_3.2] 55) :: _) := S
    have S0 := S; clear S
    obtain ⟨M_6, hM_6, hb_7, S⟩ := S0.freezeB
    clear S0
    replace h0 := h0.le RP2_mono hM_6
    replace hs3_0 := hs3_0.le RP2_mono hM_6
    refine WL_nil ?_
    refine T_n ?_
    refine WP_seq ?_
    refine WP_region ?_
    refine S_v E rfl (R_assign E rfl) rfl ?_
    clear E a; intro a E
    refine WL_nil ?_
    refine T_n ?_
    refine WP_seq ?_
    refine WP_seq ?_
    refine WP_region ?_
    refine S_v E rfl (R_move E rfl) rfl ?_
    clear E a; intro a E
    refine S_v E rfl (R_move E rfl) rfl ?_
    clear E a; intro a E
    refine S_v E rfl (R_addx (m := ((k + 1 : Nat) : Int)) E rfl rfl (by omega) (by omega)) rfl ?_
    clear E a; intro a E
    obtain ⟨v_8, sv_8, hv_8⟩ := h0.subv (k + 1) ((l0).length) (by first | omega | (simp; done) | (simp; omega) | (simp_all; omega)) (by first | omega | (simp; done) | (simp; omega) | (simp_all; omega))
    simp only [List.take_length] at hv_8
    refine S_v E rfl (R_sliceL E rfl rfl T32 h0.len sv_8 (by omega)) rfl ?_
    clear E a; intro a E
    refine S_v E rfl (R_lenV E rfl T32 hv_8.len) rfl ?_
    clear E a; intro a E
    refine S_v E rfl (R_move E rfl) rfl ?_
    clear E a; intro a E
    refine WL_nil ?_
    refine T_n ?_
    refine WP_block ?_
    refine WP_loop (γ := Nat) (fun (j : Nat) a w => ∃ (M_9 : Hp), Hp.le M_6 M_9 ∧ St w M_9 (H) ∧ Env a 67 [] [(0, v0), (3, u3), (5, .pointer (some ⟨b_5, 0, none⟩)), (6, .bool (!decide (x_3.1 ∈ ((l0.drop (k + 1)).take j).map Prod.fst))), (10, v0), (11, .int .i64 (((l0).length : Nat) : Int)), (12, .int .i64 ((k : Nat) : Int)), (20, v_8), (21, .int .i64 ((((l0).drop (k + 1)).length : Nat) : Int)), (22, .int .i64 ((j : Nat) : Int))] ∧ (j ≤ ((l0).drop (k + 1)).length)) (fun j => (((l0).drop (k + 1)).length) - j) 0 ⟨M_6, Hp.le.refl _, S, E.keep ⟨rfl, rfl, rfl, look_bool (i := true) rfl (by (simp)), rfl, rfl, rfl, rfl, rfl, rfl, trivial⟩, by ((try clear S); (try clear E); first | assumption | omega | rfl | (simp; done) | (simp_all; done) | (simp [List.take_add_one, *]; done) | grind [List.take_add_one])⟩ ?_
    try clear E
    try clear S
    try clear a
    try clear w
    rintro j a w ⟨M_9, hM_9, S, E, hL1_0⟩
    replace h0 := h0.le RP2_mono hM_9
    replace hs3_0 := hs3_0.le RP2_mono hM_9
    replace hb_7 := hM_9.2 _ _ hb_7
    replace hv_8 := hv_8.le RP2_mono hM_9
    have hdl : (l0.drop (k + 1)).length = l0.length - (k + 1) := List.length_drop
    refine WP_seq ?_
    refine WP_region ?_
    refine S_v E rfl (R_lss E rfl rfl) rfl ?_
    clear E a; intro a E
    refine WL_nil ?_
    refine T_n ?_
    refine WP_seq ?_
    refine WP_cond E rfl (fun hc_10 => ?_) (fun hc_10 => ?_)
    · replace hc_10 := of_decide_eq_true hc_10
      refine WP_skip ?_
      refine T_n ?_
      refine WP_seq ?_
      refine WP_block ?_
      refine WP_seq ?_
      refine WP_region ?_
      obtain ⟨x_11, hx_11⟩ : ∃ x, ((l0).drop (k + 1))[j]? = some x := ⟨_, List.getElem?_eq_getElem (by first | omega | (simp; done) | (simp; omega) | (simp_all; omega))⟩
      obtain ⟨p_12, hp_12, qp_12⟩ := RdP2.at hv_8 hx_11
      refine S_v E rfl (R_idx E rfl rfl T32 hp_12 rfl) rfl ?_
      clear E a; intro a E
      refine S_v E rfl (R_loadA (cs := [.int .i64 x_11.1, .int .i64 x_11.2]) E rfl (Tryz.isAgg55 _) (Tryz.sizeOf55 _) S.imm qp_12) rfl ?_
      clear E a; intro a E
      refine S_x (X_alloc (cs := #[.int .i64 0, .int .i64 0]) E S rfl Tryz.zeroValue55 rfl ?_)
      clear E a S; rintro a w b_13 E S
      refine S_x0 (X_storeG (us := [.int .i64 x_11.1, .int .i64 x_11.2]) E S rfl rfl (Tryz.sizeOf55 _) rfl (by intro u hu; simp only [List.mem_cons, List.not_mem_nil, or_false] at hu; rcases hu with rfl | rfl <;> first | exact rfl | exact rfl) ?_)
      clear E a S; rintro a w E S
      replace S : St w M_9 (blk b_13 (.cells #[.int .i64 x_11.1, .int .i64 x_11.2] 55) :: _) := S
      have S0 := S; clear S
      obtain ⟨M_14, hM_14, hb_15, S⟩ := S0.freezeB
      clear S0
      replace h0 := h0.le RP2_mono hM_14
      replace hs3_0 := hs3_0.le RP2_mono hM_14
      replace hb_7 := hM_14.2 _ _ hb_7
      replace hv_8 := hv_8.le RP2_mono hM_14
      refine WL_nil ?_
      refine T_n ?_
      refine WP_region ?_
      refine S_v E rfl (R_move E rfl) rfl ?_
      clear E a; intro a E
      refine S_v E rfl (R_move E rfl) rfl ?_
      clear E a; intro a E
      refine split_bool (!decide (x_3.1 ∈ ((l0.drop (k + 1)).take j).map Prod.fst)) (fun hc_16 => ?_) (fun hc_16 => ?_)
      · replace E := E.val (t := 6) rfl hc_16
        replace E := E.val (t := 26) rfl hc_16
        replace E := E.val (t := 27) rfl hc_16
        refine WL_guard_yes E rfl rfl ?_
        refine S_v E rfl (R_fieldAddr E rfl (FA55_0 _)) rfl ?_
        clear E a; intro a E
        refine WL_guard_yes E rfl rfl ?_
        refine S_v E rfl (R_loadM E rfl Tryz.isAgg3 S.imm (cellM_boxo hb_15 rfl)) rfl ?_
        clear E a; intro a E
        refine WL_guard_yes E rfl rfl ?_
        refine S_v E rfl (R_fieldAddr E rfl (FA55_0 _)) rfl ?_
        clear E a; intro a E
        refine WL_guard_yes E rfl rfl ?_
        refine S_v E rfl (R_loadM E rfl Tryz.isAgg3 S.imm (cellM_boxo hb_7 rfl)) rfl ?_
        clear E a; intro a E
        refine WL_guard_yes E rfl rfl ?_
        refine S_v E rfl (R_neq E rfl rfl) rfl ?_
        clear E a; intro a E
        refine S_v E rfl (R_pickT E rfl rfl) rfl ?_
        clear E a; intro a E
        refine S_v E rfl (R_assign E rfl) rfl ?_
        clear E a; intro a E
        refine WL_nil ?_
        refine B_n ?_
        refine T_n ?_
        refine WP_region ?_
        refine S_v E rfl (R_addx (m := ((j + 1 : Nat) : Int)) E rfl rfl (by omega) (by omega)) rfl ?_
        clear E a; intro a E
        refine S_v E rfl (R_move E rfl) rfl ?_
        clear E a; intro a E
        refine WL_nil ?_
        refine T_n ?_
        exact ⟨j + 1, ⟨M_14, (hM_9.trans hM_14), S, E.keep ⟨rfl, rfl, rfl, look_bool (i := decide (x_11.1 ≠ x_3.1)) rfl (by (first | exact lst_y (by assumption) (by assumption) | exact lst_n (by assumption) (by assumption))), rfl, rfl, rfl, rfl, rfl, rfl, trivial⟩, by ((try clear S); (try clear E); first | assumption | omega | rfl | (simp; done) | (simp_all; done) | (simp [List.take_add_one, *]; done) | grind [List.take_add_one])⟩, by omega⟩
      · replace E := E.val (t := 6) rfl hc_16
        replace E := E.val (t := 26) rfl hc_16
        replace E := E.val (t := 27) rfl hc_16
        refine WL_guard_no E rfl rfl rfl rfl fun a E => ?_
        refine WL_guard_no E rfl rfl rfl rfl fun a E => ?_
        refine WL_guard_no E rfl rfl rfl rfl fun a E => ?_
        refine WL_guard_no E rfl rfl rfl rfl fun a E => ?_
        refine WL_guard_no E rfl rfl rfl rfl fun a E => ?_
        refine S_v E rfl (R_pickF E rfl rfl) rfl ?_
        clear E a; intro a E
        refine S_v E rfl (R_assign E rfl) rfl ?_
        clear E a; intro a E
        refine WL_nil ?_
        refine B_n ?_
        refine T_n ?_
        refine WP_region ?_
        refine S_v E rfl (R_addx (m := ((j + 1 : Nat) : Int)) E rfl rfl (by omega) (by omega)) rfl ?_
        clear E a; intro a E
        refine S_v E rfl (R_move E rfl) rfl ?_
        clear E a; intro a E
        refine WL_nil ?_
        refine T_n ?_
        exact ⟨j + 1, ⟨M_14, (hM_9.trans hM_14), S, E.keep ⟨rfl, rfl, rfl, look_bool (i := false) rfl (by (first | exact lst_y (by assumption) (by assumption) | exact lst_n (by assumption) (by assumption))), rfl, rfl, rfl, rfl, rfl, rfl, trivial⟩, by ((try clear S); (try clear E); first | assumption | omega | rfl | (simp; done) | (simp_all; done) | (simp [List.take_add_one, *]; done) | grind [List.take_add_one])⟩, by omega⟩
    · replace hc_10 := of_decide_eq_false hc_10
      refine WP_exit ?_
      refine T_x ?_
      refine T_x ?_
      refine B_x ?_
      refine T_n ?_
      refine WP_seq ?_
      refine WP_seq ?_
      refine WP_region ?_
      refine S_v E rfl (R_move E rfl) rfl ?_
      clear E a; intro a E
      refine S_v E rfl (R_not E rfl) rfl ?_
      clear E a; intro a E
      refine WL_nil ?_
      refine T_n ?_
      refine WP_cond E rfl (fun hc_17 => ?_) (fun hc_17 => ?_)
      · refine WP_exit ?_
        refine T_x ?_
        refine B_x ?_
        refine T_n ?_
        refine WP_region ?_
        refine S_v E rfl (R_addx (m := ((k + 1 : Nat) : Int)) E rfl rfl (by omega) (by omega)) rfl ?_
        clear E a; intro a E
        refine S_v E rfl (R_move E rfl) rfl ?_
        clear E a; intro a E
        refine WL_nil ?_
        refine T_n ?_
        exact ⟨k + 1, ⟨M_9, _, (hM_1.trans (hM_6.trans hM_9)), S, E.keep ⟨rfl, rfl, rfl, rfl, rfl, trivial⟩, by ((try clear S); (try clear E); first | assumption | omega | rfl | (simp; done) | (simp_all; done) | (simp [List.take_add_one, *]; done) | grind [List.take_add_one]), (SLeqR hs3_0 (by first | exact ent_skip (by assumption) (in_all (by assumption) (by assumption)) | exact ent_put (by assumption) (in_none (by assumption) (by assumption)) (by assumption) (by first | exact gt_len (by assumption) | exact gt_at (by assumption) (by assumption))))⟩, by omega⟩
      · refine WP_skip ?_
        refine T_n ?_
        refine WP_seq ?_
        refine WP_region ?_
        refine S_v E rfl (R_assign E rfl) rfl ?_
        clear E a; intro a E
        refine WL_nil ?_
        refine T_n ?_
        refine WP_seq ?_
        refine WP_block ?_
        refine WP_loop (γ := Nat) (fun (n : Nat) a w => ∃ (M_18 : Hp), Hp.le M_9 M_18 ∧ St w M_18 (H) ∧ Env a 67 [] [(0, v0), (3, u3), (5, .pointer (some ⟨b_5, 0, none⟩)), (9, .int .i64 ((n : Nat) : Int)), (10, v0), (11, .int .i64 (((l0).length : Nat) : Int)), (12, .int .i64 ((k : Nat) : Int))] ∧ (n ≤ (srtK Prod.fst (lastsT (l0.drop k) (l0.take k))).length) ∧ (∀ q ∈ (srtK Prod.fst (lastsT (l0.drop k) (l0.take k))).take n, q.1 < x_3.1)) (fun n => (srtK Prod.fst (lastsT (l0.drop k) (l0.take k))).length - n) 0 ⟨M_9, Hp.le.refl _, S, E.keep ⟨rfl, rfl, rfl, rfl, rfl, rfl, rfl, trivial⟩, (by omega), (by simp)⟩ ?_
        try clear E
        try clear S
        try clear a
        try clear w
        rintro n a w ⟨M_18, hM_18, S, E, hL2_0, hL2_1⟩
        replace h0 := h0.le RP2_mono hM_18
        replace hs3_0 := hs3_0.le RP2_mono hM_18
        replace hb_7 := hM_18.2 _ _ hb_7
        replace hv_8 := hv_8.le RP2_mono hM_18
        refine WP_seq ?_
        refine WP_seq ?_
        have hb_7k18 := hb_7
        replace S := S.mono_heap (w' := World.drew _) rfl
        refine WP_drawn (C := fun x w => agree M_18 w) (bf := (fun i => [])) [0, 1, 2, 3, 4, 5, 6, 7, 8, 9, 10, 11, 12, 13] [0, 1, 2, 3, 4, 5, 6, 7, 8, 9, 10, 11, 12, 13] Tryz.mixed (by kernel_rfl) (fun x hq => S.imm) ?_
        refine D_v E rfl rfl rfl (fun w hC => (R_move E rfl)) ?_
        clear E a; intro a E
        refine D_v E rfl rfl rfl (fun w hC => (R_move E rfl)) ?_
        clear E a; intro a E
        refine D_v E rfl rfl rfl (fun w hC => (R_lenV E rfl T32 hs3_0.len)) ?_
        clear E a; intro a E
        refine D_v E rfl rfl rfl (fun w hC => (R_lss E rfl rfl)) ?_
        clear E a; intro a E
        refine D_v E rfl rfl rfl (fun w hC => (R_move E rfl)) ?_
        clear E a; intro a E
        refine split_bool (decide (((n : Nat) : Int) < (((srtK Prod.fst (lastsT (l0.drop k) (l0.take k))).length : Nat) : Int))) (fun hc_19 => ?_) (fun hc_19 => ?_)
        · replace E := E.val (t := 40) rfl hc_19
          replace E := E.val (t := 41) rfl hc_19
          replace hc_19 := of_decide_eq_true hc_19
          refine D_vyes E rfl rfl rfl rfl rfl (fun w hC => (R_move E rfl)) ?_
          clear E a; intro a E
          refine D_vyes E rfl rfl rfl rfl rfl (fun w hC => (R_move E rfl)) ?_
          clear E a; intro a E
          obtain ⟨x_20, hx_20⟩ : ∃ x, (srtK Prod.fst (lastsT (l0.drop k) (l0.take k)))[n]? = some x := ⟨_, List.getElem?_eq_getElem (by first | omega | (simp; done) | (simp; omega) | (simp_all; omega))⟩
          obtain ⟨p_21, hp_21, qp_21⟩ := RdP2.at hs3_0 hx_20
          refine D_vyes E rfl rfl rfl rfl rfl (fun w hC => (R_idx E rfl rfl T32 hp_21 rfl)) ?_
          clear E a; intro a E
          have qf_22 := qp_21 0 _ rfl
          refine D_vyes E rfl rfl rfl rfl rfl (fun w hC => (R_fieldAddr E rfl (FA55_0 _))) ?_
          clear E a; intro a E
          refine D_vyes E rfl rfl rfl rfl rfl (fun w hC => (R_loadM E rfl Tryz.isAgg3 hC qf_22)) ?_
          clear E a; intro a E
          refine D_vyes E rfl rfl rfl rfl rfl (fun w hC => (R_fieldAddr E rfl (FA55_0 _))) ?_
          clear E a; intro a E
          refine D_vyes E rfl rfl rfl rfl rfl (fun w hC => (R_loadM E rfl Tryz.isAgg3 hC (cellM_boxo hb_7k18 rfl))) ?_
          clear E a; intro a E
          refine D_vyes E rfl rfl rfl rfl rfl (fun w hC => (R_lss E rfl rfl)) ?_
          clear E a; intro a E
          refine D_v E rfl rfl rfl (fun w hC => (R_pickT E rfl rfl)) ?_
          clear E a; intro a E
          refine D_end (NoP_n ?_)
          refine T_n ?_
          refine WP_cond E rfl (fun hc_23 => ?_) (fun hc_23 => ?_)
          · replace hc_23 := of_decide_eq_true hc_23
            refine WP_skip ?_
            refine T_n ?_
            refine WP_block ?_
            refine WP_region ?_
            refine S_v E rfl (R_move E rfl) rfl ?_
            clear E a; intro a E
            refine S_v E rfl (R_addx (m := ((n + 1 : Nat) : Int)) E rfl rfl (by omega) (by omega)) rfl ?_
            clear E a; intro a E
            refine S_v E rfl (R_assign E rfl) rfl ?_
            clear E a; intro a E
            refine WL_nil ?_
            refine B_n ?_
            refine T_n ?_
            exact ⟨n + 1, ⟨M_18, hM_18, S, E.keep ⟨rfl, rfl, rfl, rfl, rfl, rfl, rfl, trivial⟩, (by omega), (by exact lt_snoc (by assumption) (by assumption) (by assumption))⟩, by omega⟩
          · replace hc_23 := of_decide_eq_false hc_23
            refine WP_exit ?_
            refine T_x ?_
            refine T_x ?_
            refine B_x ?_
            refine T_n ?_
            refine DG_start Tryz.mixed ?_
            refine DG_split 0 6 (by decide) (by kernel_rfl) ?_ ?_
            · refine DG_split 4 6 (by decide) (by kernel_rfl) ?_ ?_
              · have hb_7k23 := hb_7
                have qp_21k23 := qp_21
                have qf_22k23 := qf_22
                replace S := S.mono_heap (w' := World.drew _) rfl
                refine DG_end (C := fun x w => agree M_18 w) (bf := (fun i => [])) [1, 2, 3, 5, 8, 9, 10, 12] [1, 2, 3, 5, 8, 9, 10, 0, 4, 6, 7, 11, 12] (by kernel_rfl) (fun x hq => S.imm) ?_
                refine D_v E rfl rfl rfl (fun w hC => (R_move E rfl)) ?_
                clear E a; intro a E
                refine D_v E rfl rfl rfl (fun w hC => (R_move E rfl)) ?_
                clear E a; intro a E
                obtain ⟨v_24, sv_24, hv_24⟩ := hs3_0.subv 0 n (by first | omega | (simp; done) | (simp; omega) | (simp_all; omega)) (by first | omega | (simp; done) | (simp; omega) | (simp_all; omega))
                simp only [List.drop_zero] at hv_24
                refine D_v E rfl rfl rfl (fun w hC => (R_sliceH E rfl rfl T32 sv_24 (by omega))) ?_
                clear E a; intro a E
                refine D_v E rfl rfl rfl (fun w hC => (R_loadGM E rfl (Tryz.isAgg55 _) (Tryz.sizeOf55 _) hC hb_7k23)) ?_
                clear E a; intro a E
                refine D_v E rfl rfl rfl (fun w hC => (R_move E rfl)) ?_
                clear E a; intro a E
                refine D_v E rfl rfl rfl (fun w hC => (R_move E rfl)) ?_
                clear E a; intro a E
                obtain ⟨v_25, sv_25, hv_25⟩ := hs3_0.subv n ((srtK Prod.fst (lastsT (l0.drop k) (l0.take k))).length) (by first | omega | (simp; done) | (simp; omega) | (simp_all; omega)) (by first | omega | (simp; done) | (simp; omega) | (simp_all; omega))
                simp only [List.take_length] at hv_25
                refine D_v E rfl rfl rfl (fun w hC => (R_sliceL E rfl rfl T32 hs3_0.len sv_25 (by omega))) ?_
                clear E a; intro a E
                refine D_x rfl rfl rfl (X_buildA0 E S rfl T32 ?_)
                clear E a S; rintro a w v_26 E S
                have hr_27 : RowsR RP2 2 M_18 ([] : List (Int × Int)) [] := RowsR.nil
                replace S : St w M_18 (OwnC 55 2 v_26 ([] : List (Int × Int)).length [] :: _) := S
                refine ⟨fun x hq hb => (agree_le (Hp.le.refl _) S.imm), ?_⟩
                refine D_x rfl rfl rfl (X_appendR (R := RP2) (zs := ([] : List (Int × Int))) (ys := (srtK Prod.fst (lastsT (l0.drop k) (l0.take k))).take n) E S hr_27 rfl rfl rfl T32 hv_24 one_RP2 (by first | omega | (simp; done) | (simp; omega) | (simp_all; omega)) (by first | omega | (simp; done) | (simp; omega) | (simp_all; omega)) ?_)
                clear E a S; rintro a w v_28 xs_29 E hr_30 S
                refine ⟨fun x hq hb => (agree_le (Hp.le.refl _) S.imm), ?_⟩
                refine D_x rfl rfl rfl (X_buildA1 (R := RP2) (cs := [.int .i64 x_3.1, .int .i64 x_3.2]) (x0 := x_3) RP2_mono E S rfl T32 rfl rfl rfl rfl ?_)
                clear E a S; rintro a v_31 w M_32 hM_32 hv_31 S E
                replace h0 := h0.le RP2_mono hM_32
                replace hs3_0 := hs3_0.le RP2_mono hM_32
                replace hb_7 := hM_32.2 _ _ hb_7
                replace hv_8 := hv_8.le RP2_mono hM_32
                replace qp_21 := cellsM_le hM_32 qp_21
                replace hv_24 := hv_24.le RP2_mono hM_32
                replace hv_25 := hv_25.le RP2_mono hM_32
                replace hr_30 := hr_30.le RP2_mono hM_32
                refine ⟨fun x hq hb => (agree_le hM_32 S.imm), ?_⟩
                refine D_x rfl rfl rfl (X_appendR (R := RP2) (zs := ([] : List (Int × Int)) ++ ((srtK Prod.fst (lastsT (l0.drop k) (l0.take k))).take n)) (ys := [x_3]) E S hr_30 rfl rfl rfl T32 hv_31 one_RP2 (by first | omega | (simp; done) | (simp; omega) | (simp_all; omega)) (by first | omega | (simp; done) | (simp; omega) | (simp_all; omega)) ?_)
                clear E a S; rintro a w v_33 xs_34 E hr_35 S
                refine ⟨fun x hq hb => (agree_le hM_32 S.imm), ?_⟩
                refine D_x rfl rfl rfl (X_appendR (R := RP2) (zs := (([] : List (Int × Int)) ++ ((srtK Prod.fst (lastsT (l0.drop k) (l0.take k))).take n)) ++ [x_3]) (ys := (srtK Prod.fst (lastsT (l0.drop k) (l0.take k))).drop n) E S hr_35 rfl rfl rfl T32 hv_25 one_RP2 (by first | omega | (simp; done) | (simp; omega) | (simp_all; omega)) (by first | omega | (simp; done) | (simp; omega) | (simp_all; omega)) ?_)
                clear E a S; rintro a w v_36 xs_37 E hr_38 S
                refine ⟨fun x hq hb => (agree_le hM_32 S.imm), ?_⟩
                refine D_v E rfl rfl rfl (fun w hC => (R_assign E rfl)) ?_
                clear E a; intro a E
                refine D_end (NoP_n ?_)
                refine B_n ?_
                refine T_n ?_
                refine WP_region ?_
                refine S_v E rfl (R_addx (m := ((k + 1 : Nat) : Int)) E rfl rfl (by omega) (by omega)) rfl ?_
                clear E a; intro a E
                refine S_v E rfl (R_move E rfl) rfl ?_
                clear E a; intro a E
                refine WL_nil ?_
                refine T_n ?_
                have S0 := S; clear S
                obtain ⟨M_39, hM_39, hz_40, S⟩ := S0.freezeR hr_38 RP2_mono (by (first | omega | (simp; omega) | (simp; done) | (simp_all; omega) | grind))
                clear S0
                replace h0 := h0.le RP2_mono hM_39
                replace hs3_0 := hs3_0.le RP2_mono hM_39
                replace hb_7 := hM_39.2 _ _ hb_7
                replace hv_8 := hv_8.le RP2_mono hM_39
                replace qp_21 := cellsM_le hM_39 qp_21
                replace hv_24 := hv_24.le RP2_mono hM_39
                replace hv_25 := hv_25.le RP2_mono hM_39
                replace hv_31 := hv_31.le RP2_mono hM_39
                exact ⟨k + 1, ⟨M_39, _, (hM_1.trans (hM_6.trans (hM_9.trans (hM_18.trans (hM_32.trans hM_39))))), S, E.keep ⟨rfl, rfl, rfl, rfl, rfl, trivial⟩, by ((try clear S); (try clear E); first | assumption | omega | rfl | (simp; done) | (simp_all; done) | (simp [List.take_add_one, *]; done) | grind [List.take_add_one]), (SLeqR hz_40 (by first | exact ent_skip (by assumption) (in_all (by assumption) (by assumption)) | exact ent_put (by assumption) (in_none (by assumption) (by assumption)) (by assumption) (by first | exact gt_len (by assumption) | exact gt_at (by assumption) (by assumption))))⟩, by omega⟩
              · have hb_7k40 := hb_7
                have qp_21k40 := qp_21
                have qf_22k40 := qf_22
                replace S := S.mono_heap (w' := World.drew _) rfl
                refine DG_end (C := fun x w => agree M_18 w) (bf := (fun i => [])) [1, 2, 3, 5, 8, 9, 10, 12] [1, 2, 3, 5, 8, 9, 10, 0, 6, 4, 7, 11, 12] (by kernel_rfl) (fun x hq => S.imm) ?_
                refine D_v E rfl rfl rfl (fun w hC => (R_move E rfl)) ?_
                clear E a; intro a E
                refine D_v E rfl rfl rfl (fun w hC => (R_move E rfl)) ?_
                clear E a; intro a E
                obtain ⟨v_41, sv_41, hv_41⟩ := hs3_0.subv 0 n (by first | omega | (simp; done) | (simp; omega) | (simp_all; omega)) (by first | omega | (simp; done) | (simp; omega) | (simp_all; omega))
                simp only [List.drop_zero] at hv_41
                refine D_v E rfl rfl rfl (fun w hC => (R_sliceH E rfl rfl T32 sv_41 (by omega))) ?_
                clear E a; intro a E
                refine D_v E rfl rfl rfl (fun w hC => (R_loadGM E rfl (Tryz.isAgg55 _) (Tryz.sizeOf55 _) hC hb_7k40)) ?_
                clear E a; intro a E
                refine D_v E rfl rfl rfl (fun w hC => (R_move E rfl)) ?_
                clear E a; intro a E
                refine D_v E rfl rfl rfl (fun w hC => (R_move E rfl)) ?_
                clear E a; intro a E
                obtain ⟨v_42, sv_42, hv_42⟩ := hs3_0.subv n ((srtK Prod.fst (lastsT (l0.drop k) (l0.take k))).length) (by first | omega | (simp; done) | (simp; omega) | (simp_all; omega)) (by first | omega | (simp; done) | (simp; omega) | (simp_all; omega))
                simp only [List.take_length] at hv_42
                refine D_v E rfl rfl rfl (fun w hC => (R_sliceL E rfl rfl T32 hs3_0.len sv_42 (by omega))) ?_
                clear E a; intro a E
                refine D_x rfl rfl rfl (X_buildA0 E S rfl T32 ?_)
                clear E a S; rintro a w v_43 E S
                have hr_44 : RowsR RP2 2 M_18 ([] : List (Int × Int)) [] := RowsR.nil
                replace S : St w M_18 (OwnC 55 2 v_43 ([] : List (Int × Int)).length [] :: _) := S
                refine ⟨fun x hq hb => (agree_le (Hp.le.refl _) S.imm), ?_⟩
                refine D_x rfl rfl rfl (X_buildA1 (R := RP2) (cs := [.int .i64 x_3.1, .int .i64 x_3.2]) (x0 := x_3) RP2_mono E S rfl T32 rfl rfl rfl rfl ?_)
                clear E a S; rintro a v_45 w M_46 hM_46 hv_45 S E
                replace h0 := h0.le RP2_mono hM_46
                replace hs3_0 := hs3_0.le RP2_mono hM_46
                replace hb_7 := hM_46.2 _ _ hb_7
                replace hv_8 := hv_8.le RP2_mono hM_46
                replace qp_21 := cellsM_le hM_46 qp_21
                replace hv_41 := hv_41.le RP2_mono hM_46
                replace hv_42 := hv_42.le RP2_mono hM_46
                replace hr_44 := hr_44.le RP2_mono hM_46
                refine ⟨fun x hq hb => (agree_le hM_46 S.imm), ?_⟩
                refine D_x rfl rfl rfl (X_appendR (R := RP2) (zs := ([] : List (Int × Int))) (ys := (srtK Prod.fst (lastsT (l0.drop k) (l0.take k))).take n) E S hr_44 rfl rfl rfl T32 hv_41 one_RP2 (by first | omega | (simp; done) | (simp; omega) | (simp_all; omega)) (by first | omega | (simp; done) | (simp; omega) | (simp_all; omega)) ?_)
                clear E a S; rintro a w v_47 xs_48 E hr_49 S
                refine ⟨fun x hq hb => (agree_le hM_46 S.imm), ?_⟩
                refine D_x rfl rfl rfl (X_appendR (R := RP2) (zs := ([] : List (Int × Int)) ++ ((srtK Prod.fst (lastsT (l0.drop k) (l0.take k))).take n)) (ys := [x_3]) E S hr_49 rfl rfl rfl T32 hv_45 one_RP2 (by first | omega | (simp; done) | (simp; omega) | (simp_all; omega)) (by first | omega | (simp; done) | (simp; omega) | (simp_all; omega)) ?_)
                clear E a S; rintro a w v_50 xs_51 E hr_52 S
                refine ⟨fun x hq hb => (agree_le hM_46 S.imm), ?_⟩
                refine D_x rfl rfl rfl (X_appendR (R := RP2) (zs := (([] : List (Int × Int)) ++ ((srtK Prod.fst (lastsT (l0.drop k) (l0.take k))).take n)) ++ [x_3]) (ys := (srtK Prod.fst (lastsT (l0.drop k) (l0.take k))).drop n) E S hr_52 rfl rfl rfl T32 hv_42 one_RP2 (by first | omega | (simp; done) | (simp; omega) | (simp_all; omega)) (by first | omega | (simp; done) | (simp; omega) | (simp_all; omega)) ?_)
                clear E a S; rintro a w v_53 xs_54 E hr_55 S
                refine ⟨fun x hq hb => (agree_le hM_46 S.imm), ?_⟩
                refine D_v E rfl rfl rfl (fun w hC => (R_assign E rfl)) ?_
                clear E a; intro a E
                refine D_end (NoP_n ?_)
                refine B_n ?_
                refine T_n ?_
                refine WP_region ?_
                refine S_v E rfl (R_addx (m := ((k + 1 : Nat) : Int)) E rfl rfl (by omega) (by omega)) rfl ?_
                clear E a; intro a E
                refine S_v E rfl (R_move E rfl) rfl ?_
                clear E a; intro a E
                refine WL_nil ?_
                refine T_n ?_
                have S0 := S; clear S
                obtain ⟨M_56, hM_56, hz_57, S⟩ := S0.freezeR hr_55 RP2_mono (by (first | omega | (simp; omega) | (simp; done) | (simp_all; omega) | grind))
                clear S0
                replace h0 := h0.le RP2_mono hM_56
                replace hs3_0 := hs3_0.le RP2_mono hM_56
                replace hb_7 := hM_56.2 _ _ hb_7
                replace hv_8 := hv_8.le RP2_mono hM_56
                replace qp_21 := cellsM_le hM_56 qp_21
                replace hv_41 := hv_41.le RP2_mono hM_56
                replace hv_42 := hv_42.le RP2_mono hM_56
                replace hv_45 := hv_45.le RP2_mono hM_56
                exact ⟨k + 1, ⟨M_56, _, (hM_1.trans (hM_6.trans (hM_9.trans (hM_18.trans (hM_46.trans hM_56))))), S, E.keep ⟨rfl, rfl, rfl, rfl, rfl, trivial⟩, by ((try clear S); (try clear E); first | assumption | omega | rfl | (simp; done) | (simp_all; done) | (simp [List.take_add_one, *]; done) | grind [List.take_add_one]), (SLeqR hz_57 (by first | exact ent_skip (by assumption) (in_all (by assumption) (by assumption)) | exact ent_put (by assumption) (in_none (by assumption) (by assumption)) (by assumption) (by first | exact gt_len (by assumption) | exact gt_at (by assumption) (by assumption))))⟩, by omega⟩
            · have hb_7k57 := hb_7
              have qp_21k57 := qp_21
              have qf_22k57 := qf_22
              replace S := S.mono_heap (w' := World.drew _) rfl
              refine DG_end (C := fun x w => agree M_18 w) (bf := (fun i => [])) [1, 2, 3, 5, 8, 9, 10, 12] [1, 2, 3, 5, 8, 9, 10, 6, 0, 4, 7, 11, 12] (by kernel_rfl) (fun x hq => S.imm) ?_
              refine D_v E rfl rfl rfl (fun w hC => (R_move E rfl)) ?_
              clear E a; intro a E
              refine D_v E rfl rfl rfl (fun w hC => (R_move E rfl)) ?_
              clear E a; intro a E
              obtain ⟨v_58, sv_58, hv_58⟩ := hs3_0.subv 0 n (by first | omega | (simp; done) | (simp; omega) | (simp_all; omega)) (by first | omega | (simp; done) | (simp; omega) | (simp_all; omega))
              simp only [List.drop_zero] at hv_58
              refine D_v E rfl rfl rfl (fun w hC => (R_sliceH E rfl rfl T32 sv_58 (by omega))) ?_
              clear E a; intro a E
              refine D_v E rfl rfl rfl (fun w hC => (R_loadGM E rfl (Tryz.isAgg55 _) (Tryz.sizeOf55 _) hC hb_7k57)) ?_
              clear E a; intro a E
              refine D_v E rfl rfl rfl (fun w hC => (R_move E rfl)) ?_
              clear E a; intro a E
              refine D_v E rfl rfl rfl (fun w hC => (R_move E rfl)) ?_
              clear E a; intro a E
              obtain ⟨v_59, sv_59, hv_59⟩ := hs3_0.subv n ((srtK Prod.fst (lastsT (l0.drop k) (l0.take k))).length) (by first | omega | (simp; done) | (simp; omega) | (simp_all; omega)) (by first | omega | (simp; done) | (simp; omega) | (simp_all; omega))
              simp only [List.take_length] at hv_59
              refine D_v E rfl rfl rfl (fun w hC => (R_sliceL E rfl rfl T32 hs3_0.len sv_59 (by omega))) ?_
              clear E a; intro a E
              refine D_x rfl rfl rfl (X_buildA1 (R := RP2) (cs := [.int .i64 x_3.1, .int .i64 x_3.2]) (x0 := x_3) RP2_mono E S rfl T32 rfl rfl rfl rfl ?_)
              clear E a S; rintro a v_60 w M_61 hM_61 hv_60 S E
              replace h0 := h0.le RP2_mono hM_61
              replace hs3_0 := hs3_0.le RP2_mono hM_61
              replace hb_7 := hM_61.2 _ _ hb_7
              replace hv_8 := hv_8.le RP2_mono hM_61
              replace qp_21 := cellsM_le hM_61 qp_21
              replace hv_58 := hv_58.le RP2_mono hM_61
              replace hv_59 := hv_59.le RP2_mono hM_61
              refine ⟨fun x hq hb => (agree_le hM_61 S.imm), ?_⟩
              refine D_x rfl rfl rfl (X_buildA0 E S rfl T32 ?_)
              clear E a S; rintro a w v_62 E S
              have hr_63 : RowsR RP2 2 M_61 ([] : List (Int × Int)) [] := RowsR.nil
              replace S : St w M_61 (OwnC 55 2 v_62 ([] : List (Int × Int)).length [] :: _) := S
              refine ⟨fun x hq hb => (agree_le hM_61 S.imm), ?_⟩
              refine D_x rfl rfl rfl (X_appendR (R := RP2) (zs := ([] : List (Int × Int))) (ys := (srtK Prod.fst (lastsT (l0.drop k) (l0.take k))).take n) E S hr_63 rfl rfl rfl T32 hv_58 one_RP2 (by first | omega | (simp; done) | (simp; omega) | (simp_all; omega)) (by first | omega | (simp; done) | (simp; omega) | (simp_all; omega)) ?_)
              clear E a S; rintro a w v_64 xs_65 E hr_66 S
              refine ⟨fun x hq hb => (agree_le hM_61 S.imm), ?_⟩
              refine D_x rfl rfl rfl (X_appendR (R := RP2) (zs := ([] : List (Int × Int)) ++ ((srtK Prod.fst (lastsT (l0.drop k) (l0.take k))).take n)) (ys := [x_3]) E S hr_66 rfl rfl rfl T32 hv_60 one_RP2 (by first | omega | (simp; done) | (simp; omega) | (simp_all; omega)) (by first | omega | (simp; done) | (simp; omega) | (simp_all; omega)) ?_)
              clear E a S; rintro a w v_67 xs_68 E hr_69 S
              refine ⟨fun x hq hb => (agree_le hM_61 S.imm), ?_⟩
              refine D_x rfl rfl rfl (X_appendR (R := RP2) (zs := (([] : List (Int × Int)) ++ ((srtK Prod.fst (lastsT (l0.drop k) (l0.take k))).take n)) ++ [x_3]) (ys := (srtK Prod.fst (lastsT (l0.drop k) (l0.take k))).drop n) E S hr_69 rfl rfl rfl T32 hv_59 one_RP2 (by first | omega | (simp; done) | (simp; omega) | (simp_all; omega)) (by first | omega | (simp; done) | (simp; omega) | (simp_all; omega)) ?_)
              clear E a S; rintro a w v_70 xs_71 E hr_72 S
              refine ⟨fun x hq hb => (agree_le hM_61 S.imm), ?_⟩
              refine D_v E rfl rfl rfl (fun w hC => (R_assign E rfl)) ?_
              clear E a; intro a E
              refine D_end (NoP_n ?_)
              refine B_n ?_
              refine T_n ?_
              refine WP_region ?_
              refine S_v E rfl (R_addx (m := ((k + 1 : Nat) : Int)) E rfl rfl (by omega) (by omega)) rfl ?_
              clear E a; intro a E
              refine S_v E rfl (R_move E rfl) rfl ?_
              clear E a; intro a E
              refine WL_nil ?_
              refine T_n ?_
              have S0 := S; clear S
              obtain ⟨M_73, hM_73, hz_74, S⟩ := S0.freezeR hr_72 RP2_mono (by (first | omega | (simp; omega) | (simp; done) | (simp_all; omega) | grind))
              clear S0
              replace h0 := h0.le RP2_mono hM_73
              replace hs3_0 := hs3_0.le RP2_mono hM_73
              replace hb_7 := hM_73.2 _ _ hb_7
              replace hv_8 := hv_8.le RP2_mono hM_73
              replace qp_21 := cellsM_le hM_73 qp_21
              replace hv_58 := hv_58.le RP2_mono hM_73
              replace hv_59 := hv_59.le RP2_mono hM_73
              replace hv_60 := hv_60.le RP2_mono hM_73
              exact ⟨k + 1, ⟨M_73, _, (hM_1.trans (hM_6.trans (hM_9.trans (hM_18.trans (hM_61.trans hM_73))))), S, E.keep ⟨rfl, rfl, rfl, rfl, rfl, trivial⟩, by ((try clear S); (try clear E); first | assumption | omega | rfl | (simp; done) | (simp_all; done) | (simp [List.take_add_one, *]; done) | grind [List.take_add_one]), (SLeqR hz_74 (by first | exact ent_skip (by assumption) (in_all (by assumption) (by assumption)) | exact ent_put (by assumption) (in_none (by assumption) (by assumption)) (by assumption) (by first | exact gt_len (by assumption) | exact gt_at (by assumption) (by assumption))))⟩, by omega⟩
        · replace E := E.val (t := 40) rfl hc_19
          replace E := E.val (t := 41) rfl hc_19
          replace hc_19 := of_decide_eq_false hc_19
          refine D_no E rfl rfl rfl rfl rfl fun a E => ?_
          refine D_no E rfl rfl rfl rfl rfl fun a E => ?_
          refine D_no E rfl rfl rfl rfl rfl fun a E => ?_
          refine D_no E rfl rfl rfl rfl rfl fun a E => ?_
          refine D_no E rfl rfl rfl rfl rfl fun a E => ?_
          refine D_no E rfl rfl rfl rfl rfl fun a E => ?_
          refine D_no E rfl rfl rfl rfl rfl fun a E => ?_
          refine D_no E rfl rfl rfl rfl rfl fun a E => ?_
          refine D_v E rfl rfl rfl (fun w hC => (R_pickF E rfl rfl)) ?_
          clear E a; intro a E
          refine D_end (NoP_n ?_)
          refine T_n ?_
          refine WP_condF E rfl rfl ?_
          refine WP_exit ?_
          refine T_x ?_
          refine T_x ?_
          refine B_x ?_
          refine T_n ?_
          refine DG_start Tryz.mixed ?_
          refine DG_split 0 6 (by decide) (by kernel_rfl) ?_ ?_
          · refine DG_split 4 6 (by decide) (by kernel_rfl) ?_ ?_
            · have hb_7k74 := hb_7
              replace S := S.mono_heap (w' := World.drew _) rfl
              refine DG_end (C := fun x w => agree M_18 w) (bf := (fun i => [])) [1, 2, 3, 5, 8, 9, 10, 12] [1, 2, 3, 5, 8, 9, 10, 0, 4, 6, 7, 11, 12] (by kernel_rfl) (fun x hq => S.imm) ?_
              refine D_v E rfl rfl rfl (fun w hC => (R_move E rfl)) ?_
              clear E a; intro a E
              refine D_v E rfl rfl rfl (fun w hC => (R_move E rfl)) ?_
              clear E a; intro a E
              obtain ⟨v_75, sv_75, hv_75⟩ := hs3_0.subv 0 n (by first | omega | (simp; done) | (simp; omega) | (simp_all; omega)) (by first | omega | (simp; done) | (simp; omega) | (simp_all; omega))
              simp only [List.drop_zero] at hv_75
              refine D_v E rfl rfl rfl (fun w hC => (R_sliceH E rfl rfl T32 sv_75 (by omega))) ?_
              clear E a; intro a E
              refine D_v E rfl rfl rfl (fun w hC => (R_loadGM E rfl (Tryz.isAgg55 _) (Tryz.sizeOf55 _) hC hb_7k74)) ?_
              clear E a; intro a E
              refine D_v E rfl rfl rfl (fun w hC => (R_move E rfl)) ?_
              clear E a; intro a E
              refine D_v E rfl rfl rfl (fun w hC => (R_move E rfl)) ?_
              clear E a; intro a E
              obtain ⟨v_76, sv_76, hv_76⟩ := hs3_0.subv n ((srtK Prod.fst (lastsT (l0.drop k) (l0.take k))).length) (by first | omega | (simp; done) | (simp; omega) | (simp_all; omega)) (by first | omega | (simp; done) | (simp; omega) | (simp_all; omega))
              simp only [List.take_length] at hv_76
              refine D_v E rfl rfl rfl (fun w hC => (R_sliceL E rfl rfl T32 hs3_0.len sv_76 (by omega))) ?_
              clear E a; intro a E
              refine D_x rfl rfl rfl (X_buildA0 E S rfl T32 ?_)
              clear E a S; rintro a w v_77 E S
              have hr_78 : RowsR RP2 2 M_18 ([] : List (Int × Int)) [] := RowsR.nil
              replace S : St w M_18 (OwnC 55 2 v_77 ([] : List (Int × Int)).length [] :: _) := S
              refine ⟨fun x hq hb => (agree_le (Hp.le.refl _) S.imm), ?_⟩
              refine D_x rfl rfl rfl (X_appendR (R := RP2) (zs := ([] : List (Int × Int))) (ys := (srtK Prod.fst (lastsT (l0.drop k) (l0.take k))).take n) E S hr_78 rfl rfl rfl T32 hv_75 one_RP2 (by first | omega | (simp; done) | (simp; omega) | (simp_all; omega)) (by first | omega | (simp; done) | (simp; omega) | (simp_all; omega)) ?_)
              clear E a S; rintro a w v_79 xs_80 E hr_81 S
              refine ⟨fun x hq hb => (agree_le (Hp.le.refl _) S.imm), ?_⟩
              refine D_x rfl rfl rfl (X_buildA1 (R := RP2) (cs := [.int .i64 x_3.1, .int .i64 x_3.2]) (x0 := x_3) RP2_mono E S rfl T32 rfl rfl rfl rfl ?_)
              clear E a S; rintro a v_82 w M_83 hM_83 hv_82 S E
              replace h0 := h0.le RP2_mono hM_83
              replace hs3_0 := hs3_0.le RP2_mono hM_83
              replace hb_7 := hM_83.2 _ _ hb_7
              replace hv_8 := hv_8.le RP2_mono hM_83
              replace hv_75 := hv_75.le RP2_mono hM_83
              replace hv_76 := hv_76.le RP2_mono hM_83
              replace hr_81 := hr_81.le RP2_mono hM_83
              refine ⟨fun x hq hb => (agree_le hM_83 S.imm), ?_⟩
              refine D_x rfl rfl rfl (X_appendR (R := RP2) (zs := ([] : List (Int × Int)) ++ ((srtK Prod.fst (lastsT (l0.drop k) (l0.take k))).take n)) (ys := [x_3]) E S hr_81 rfl rfl rfl T32 hv_82 one_RP2 (by first | omega | (simp; done) | (simp; omega) | (simp_all; omega)) (by first | omega | (simp; done) | (simp; omega) | (simp_all; omega)) ?_)
              clear E a S; rintro a w v_84 xs_85 E hr_86 S
              refine ⟨fun x hq hb => (agree_le hM_83 S.imm), ?_⟩
              refine D_x rfl rfl rfl (X_appendR (R := RP2) (zs := (([] : List (Int × Int)) ++ ((srtK Prod.fst (lastsT (l0.drop k) (l0.take k))).take n)) ++ [x_3]) (ys := (srtK Prod.fst (lastsT (l0.drop k) (l0.take k))).drop n) E S hr_86 rfl rfl rfl T32 hv_76 one_RP2 (by first | omega | (simp; done) | (simp; omega) | (simp_all; omega)) (by first | omega | (simp; done) | (simp; omega) | (simp_all; omega)) ?_)
              clear E a S; rintro a w v_87 xs_88 E hr_89 S
              refine ⟨fun x hq hb => (agree_le hM_83 S.imm), ?_⟩
              refine D_v E rfl rfl rfl (fun w hC => (R_assign E rfl)) ?_
              clear E a; intro a E
              refine D_end (NoP_n ?_)
              refine B_n ?_
              refine T_n ?_
              refine WP_region ?_
              refine S_v E rfl (R_addx (m := ((k + 1 : Nat) : Int)) E rfl rfl (by omega) (by omega)) rfl ?_
              clear E a; intro a E
              refine S_v E rfl (R_move E rfl) rfl ?_
              clear E a; intro a E
              refine WL_nil ?_
              refine T_n ?_
              have S0 := S; clear S
              obtain ⟨M_90, hM_90, hz_91, S⟩ := S0.freezeR hr_89 RP2_mono (by (first | omega | (simp; omega) | (simp; done) | (simp_all; omega) | grind))
              clear S0
              replace h0 := h0.le RP2_mono hM_90
              replace hs3_0 := hs3_0.le RP2_mono hM_90
              replace hb_7 := hM_90.2 _ _ hb_7
              replace hv_8 := hv_8.le RP2_mono hM_90
              replace hv_75 := hv_75.le RP2_mono hM_90
              replace hv_76 := hv_76.le RP2_mono hM_90
              replace hv_82 := hv_82.le RP2_mono hM_90
              exact ⟨k + 1, ⟨M_90, _, (hM_1.trans (hM_6.trans (hM_9.trans (hM_18.trans (hM_83.trans hM_90))))), S, E.keep ⟨rfl, rfl, rfl, rfl, rfl, trivial⟩, by ((try clear S); (try clear E); first | assumption | omega | rfl | (simp; done) | (simp_all; done) | (simp [List.take_add_one, *]; done) | grind [List.take_add_one]), (SLeqR hz_91 (by first | exact ent_skip (by assumption) (in_all (by assumption) (by assumption)) | exact ent_put (by assumption) (in_none (by assumption) (by assumption)) (by assumption) (by first | exact gt_len (by assumption) | exact gt_at (by assumption) (by assumption))))⟩, by omega⟩
            · have hb_7k91 := hb_7
              replace S := S.mono_heap (w' := World.drew _) rfl
              refine DG_end (C := fun x w => agree M_18 w) (bf := (fun i => [])) [1, 2, 3, 5, 8, 9, 10, 12] [1, 2, 3, 5, 8, 9, 10, 0, 6, 4, 7, 11, 12] (by kernel_rfl) (fun x hq => S.imm) ?_
              refine D_v E rfl rfl rfl (fun w hC => (R_move E rfl)) ?_
              clear E a; intro a E
              refine D_v E rfl rfl rfl (fun w hC => (R_move E rfl)) ?_
              clear E a; intro a E
              obtain ⟨v_92, sv_92, hv_92⟩ := hs3_0.subv 0 n (by first | omega | (simp; done) | (simp; omega) | (simp_all; omega)) (by first | omega | (simp; done) | (simp; omega) | (simp_all; omega))
              simp only [List.drop_zero] at hv_92
              refine D_v E rfl rfl rfl (fun w hC => (R_sliceH E rfl rfl T32 sv_92 (by omega))) ?_
              clear E a; intro a E
              refine D_v E rfl rfl rfl (fun w hC => (R_loadGM E rfl (Tryz.isAgg55 _) (Tryz.sizeOf55 _) hC hb_7k91)) ?_
              clear E a; intro a E
              refine D_v E rfl rfl rfl (fun w hC => (R_move E rfl)) ?_
              clear E a; intro a E
              refine D_v E rfl rfl rfl (fun w hC => (R_move E rfl)) ?_
              clear E a; intro a E
              obtain ⟨v_93, sv_93, hv_93⟩ := hs3_0.subv n ((srtK Prod.fst (lastsT (l0.drop k) (l0.take k))).length) (by first | omega | (simp; done) | (simp; omega) | (simp_all; omega)) (by first | omega | (simp; done) | (simp; omega) | (simp_all; omega))
              simp only [List.take_length] at hv_93
              refine D_v E rfl rfl rfl (fun w hC => (R_sliceL E rfl rfl T32 hs3_0.len sv_93 (by omega))) ?_
              clear E a; intro a E
              refine D_x rfl rfl rfl (X_buildA0 E S rfl T32 ?_)
              clear E a S; rintro a w v_94 E S
              have hr_95 : RowsR RP2 2 M_18 ([] : List (Int × Int)) [] := RowsR.nil
              replace S : St w M_18 (OwnC 55 2 v_94 ([] : List (Int × Int)).length [] :: _) := S
              refine ⟨fun x hq hb => (agree_le (Hp.le.refl _) S.imm), ?_⟩
              refine D_x rfl rfl rfl (X_buildA1 (R := RP2) (cs := [.int .i64 x_3.1, .int .i64 x_3.2]) (x0 := x_3) RP2_mono E S rfl T32 rfl rfl rfl rfl ?_)
              clear E a S; rintro a v_96 w M_97 hM_97 hv_96 S E
              replace h0 := h0.le RP2_mono hM_97
              replace hs3_0 := hs3_0.le RP2_mono hM_97
              replace hb_7 := hM_97.2 _ _ hb_7
              replace hv_8 := hv_8.le RP2_mono hM_97
              replace hv_92 := hv_92.le RP2_mono hM_97
              replace hv_93 := hv_93.le RP2_mono hM_97
              replace hr_95 := hr_95.le RP2_mono hM_97
              refine ⟨fun x hq hb => (agree_le hM_97 S.imm), ?_⟩
              refine D_x rfl rfl rfl (X_appendR (R := RP2) (zs := ([] : List (Int × Int))) (ys := (srtK Prod.fst (lastsT (l0.drop k) (l0.take k))).take n) E S hr_95 rfl rfl rfl T32 hv_92 one_RP2 (by first | omega | (simp; done) | (simp; omega) | (simp_all; omega)) (by first | omega | (simp; done) | (simp; omega) | (simp_all; omega)) ?_)
              clear E a S; rintro a w v_98 xs_99 E hr_100 S
              refine ⟨fun x hq hb => (agree_le hM_97 S.imm), ?_⟩
              refine D_x rfl rfl rfl (X_appendR (R := RP2) (zs := ([] : List (Int × Int)) ++ ((srtK Prod.fst (lastsT (l0.drop k) (l0.take k))).take n)) (ys := [x_3]) E S hr_100 rfl rfl rfl T32 hv_96 one_RP2 (by first | omega | (simp; done) | (simp; omega) | (simp_all; omega)) (by first | omega | (simp; done) | (simp; omega) | (simp_all; omega)) ?_)
              clear E a S; rintro a w v_101 xs_102 E hr_103 S
              refine ⟨fun x hq hb => (agree_le hM_97 S.imm), ?_⟩
              refine D_x rfl rfl rfl (X_appendR (R := RP2) (zs := (([] : List (Int × Int)) ++ ((srtK Prod.fst (lastsT (l0.drop k) (l0.take k))).take n)) ++ [x_3]) (ys := (srtK Prod.fst (lastsT (l0.drop k) (l0.take k))).drop n) E S hr_103 rfl rfl rfl T32 hv_93 one_RP2 (by first | omega | (simp; done) | (simp; omega) | (simp_all; omega)) (by first | omega | (simp; done) | (simp; omega) | (simp_all; omega)) ?_)
              clear E a S; rintro a w v_104 xs_105 E hr_106 S
              refine ⟨fun x hq hb => (agree_le hM_97 S.imm), ?_⟩
              refine D_v E rfl rfl rfl (fun w hC => (R_assign E rfl)) ?_
              clear E a; intro a E
              refine D_end (NoP_n ?_)
              refine B_n ?_
              refine T_n ?_
              refine WP_region ?_
              refine S_v E rfl (R_addx (m := ((k + 1 : Nat) : Int)) E rfl rfl (by omega) (by omega)) rfl ?_
              clear E a; intro a E
              refine S_v E rfl (R_move E rfl) rfl ?_
              clear E a; intro a E
              refine WL_nil ?_
              refine T_n ?_
              have S0 := S; clear S
              obtain ⟨M_107, hM_107, hz_108, S⟩ := S0.freezeR hr_106 RP2_mono (by (first | omega | (simp; omega) | (simp; done) | (simp_all; omega) | grind))
              clear S0
              replace h0 := h0.le RP2_mono hM_107
              replace hs3_0 := hs3_0.le RP2_mono hM_107
              replace hb_7 := hM_107.2 _ _ hb_7
              replace hv_8 := hv_8.le RP2_mono hM_107
              replace hv_92 := hv_92.le RP2_mono hM_107
              replace hv_93 := hv_93.le RP2_mono hM_107
              replace hv_96 := hv_96.le RP2_mono hM_107
              exact ⟨k + 1, ⟨M_107, _, (hM_1.trans (hM_6.trans (hM_9.trans (hM_18.trans (hM_97.trans hM_107))))), S, E.keep ⟨rfl, rfl, rfl, rfl, rfl, trivial⟩, by ((try clear S); (try clear E); first | assumption | omega | rfl | (simp; done) | (simp_all; done) | (simp [List.take_add_one, *]; done) | grind [List.take_add_one]), (SLeqR hz_108 (by first | exact ent_skip (by assumption) (in_all (by assumption) (by assumption)) | exact ent_put (by assumption) (in_none (by assumption) (by assumption)) (by assumption) (by first | exact gt_len (by assumption) | exact gt_at (by assumption) (by assumption))))⟩, by omega⟩
          · have hb_7k108 := hb_7
            replace S := S.mono_heap (w' := World.drew _) rfl
            refine DG_end (C := fun x w => agree M_18 w) (bf := (fun i => [])) [1, 2, 3, 5, 8, 9, 10, 12] [1, 2, 3, 5, 8, 9, 10, 6, 0, 4, 7, 11, 12] (by kernel_rfl) (fun x hq => S.imm) ?_
            refine D_v E rfl rfl rfl (fun w hC => (R_move E rfl)) ?_
            clear E a; intro a E
            refine D_v E rfl rfl rfl (fun w hC => (R_move E rfl)) ?_
            clear E a; intro a E
            obtain ⟨v_109, sv_109, hv_109⟩ := hs3_0.subv 0 n (by first | omega | (simp; done) | (simp; omega) | (simp_all; omega)) (by first | omega | (simp; done) | (simp; omega) | (simp_all; omega))
            simp only [List.drop_zero] at hv_109
            refine D_v E rfl rfl rfl (fun w hC => (R_sliceH E rfl rfl T32 sv_109 (by omega))) ?_
            clear E a; intro a E
            refine D_v E rfl rfl rfl (fun w hC => (R_loadGM E rfl (Tryz.isAgg55 _) (Tryz.sizeOf55 _) hC hb_7k108)) ?_
            clear E a; intro a E
            refine D_v E rfl rfl rfl (fun w hC => (R_move E rfl)) ?_
            clear E a; intro a E
            refine D_v E rfl rfl rfl (fun w hC => (R_move E rfl)) ?_
            clear E a; intro a E
            obtain ⟨v_110, sv_110, hv_110⟩ := hs3_0.subv n ((srtK Prod.fst (lastsT (l0.drop k) (l0.take k))).length) (by first | omega | (simp; done) | (simp; omega) | (simp_all; omega)) (by first | omega | (simp; done) | (simp; omega) | (simp_all; omega))
            simp only [List.take_length] at hv_110
            refine D_v E rfl rfl rfl (fun w hC => (R_sliceL E rfl rfl T32 hs3_0.len sv_110 (by omega))) ?_
            clear E a; intro a E
            refine D_x rfl rfl rfl (X_buildA1 (R := RP2) (cs := [.int .i64 x_3.1, .int .i64 x_3.2]) (x0 := x_3) RP2_mono E S rfl T32 rfl rfl rfl rfl ?_)
            clear E a S; rintro a v_111 w M_112 hM_112 hv_111 S E
            replace h0 := h0.le RP2_mono hM_112
            replace hs3_0 := hs3_0.le RP2_mono hM_112
            replace hb_7 := hM_112.2 _ _ hb_7
            replace hv_8 := hv_8.le RP2_mono hM_112
            replace hv_109 := hv_109.le RP2_mono hM_112
            replace hv_110 := hv_110.le RP2_mono hM_112
            refine ⟨fun x hq hb => (agree_le hM_112 S.imm), ?_⟩
            refine D_x rfl rfl rfl (X_buildA0 E S rfl T32 ?_)
            clear E a S; rintro a w v_113 E S
            have hr_114 : RowsR RP2 2 M_112 ([] : List (Int × Int)) [] := RowsR.nil
            replace S : St w M_112 (OwnC 55 2 v_113 ([] : List (Int × Int)).length [] :: _) := S
            refine ⟨fun x hq hb => (agree_le hM_112 S.imm), ?_⟩
            refine D_x rfl rfl rfl (X_appendR (R := RP2) (zs := ([] : List (Int × Int))) (ys := (srtK Prod.fst (lastsT (l0.drop k) (l0.take k))).take n) E S hr_114 rfl rfl rfl T32 hv_109 one_RP2 (by first | omega | (simp; done) | (simp; omega) | (simp_all; omega)) (by first | omega | (simp; done) | (simp; omega) | (simp_all; omega)) ?_)
            clear E a S; rintro a w v_115 xs_116 E hr_117 S
            refine ⟨fun x hq hb => (agree_le hM_112 S.imm), ?_⟩
            refine D_x rfl rfl rfl (X_appendR (R := RP2) (zs := ([] : List (Int × Int)) ++ ((srtK Prod.fst (lastsT (l0.drop k) (l0.take k))).take n)) (ys := [x_3]) E S hr_117 rfl rfl rfl T32 hv_111 one_RP2 (by first | omega | (simp; done) | (simp; omega) | (simp_all; omega)) (by first | omega | (simp; done) | (simp; omega) | (simp_all; omega)) ?_)
            clear E a S; rintro a w v_118 xs_119 E hr_120 S
            refine ⟨fun x hq hb => (agree_le hM_112 S.imm), ?_⟩
            refine D_x rfl rfl rfl (X_appendR (R := RP2) (zs := (([] : List (Int × Int)) ++ ((srtK Prod.fst (lastsT (l0.drop k) (l0.take k))).take n)) ++ [x_3]) (ys := (srtK Prod.fst (lastsT (l0.drop k) (l0.take k))).drop n) E S hr_120 rfl rfl rfl T32 hv_110 one_RP2 (by first | omega | (simp; done) | (simp; omega) | (simp_all; omega)) (by first | omega | (simp; done) | (simp; omega) | (simp_all; omega)) ?_)
            clear E a S; rintro a w v_121 xs_122 E hr_123 S
            refine ⟨fun x hq hb => (agree_le hM_112 S.imm), ?_⟩
            refine D_v E rfl rfl rfl (fun w hC => (R_assign E rfl)) ?_
            clear E a; intro a E
            refine D_end (NoP_n ?_)
            refine B_n ?_
            refine T_n ?_
            refine WP_region ?_
            refine S_v E rfl (R_addx (m := ((k + 1 : Nat) : Int)) E rfl rfl (by omega) (by omega)) rfl ?_
            clear E a; intro a E
            refine S_v E rfl (R_move E rfl) rfl ?_
            clear E a; intro a E
            refine WL_nil ?_
            refine T_n ?_
            have S0 := S; clear S
            obtain ⟨M_124, hM_124, hz_125, S⟩ := S0.freezeR hr_123 RP2_mono (by (first | omega | (simp; omega) | (simp; done) | (simp_all; omega) | grind))
            clear S0
            replace h0 := h0.le RP2_mono hM_124
            replace hs3_0 := hs3_0.le RP2_mono hM_124
            replace hb_7 := hM_124.2 _ _ hb_7
            replace hv_8 := hv_8.le RP2_mono hM_124
            replace hv_109 := hv_109.le RP2_mono hM_124
            replace hv_110 := hv_110.le RP2_mono hM_124
            replace hv_111 := hv_111.le RP2_mono hM_124
            exact ⟨k + 1, ⟨M_124, _, (hM_1.trans (hM_6.trans (hM_9.trans (hM_18.trans (hM_112.trans hM_124))))), S, E.keep ⟨rfl, rfl, rfl, rfl, rfl, trivial⟩, by ((try clear S); (try clear E); first | assumption | omega | rfl | (simp; done) | (simp_all; done) | (simp [List.take_add_one, *]; done) | grind [List.take_add_one]), (SLeqR hz_125 (by first | exact ent_skip (by assumption) (in_all (by assumption) (by assumption)) | exact ent_put (by assumption) (in_none (by assumption) (by assumption)) (by assumption) (by first | exact gt_len (by assumption) | exact gt_at (by assumption) (by assumption))))⟩, by omega⟩
  · replace hc_2 := of_decide_eq_false hc_2
    refine WP_exit ?_
    refine T_x ?_
    refine T_x ?_
    refine B_x ?_
    refine T_n ?_
    refine WP_seq ?_
    refine WP_region ?_
    refine S_v E rfl (R_move E rfl) rfl ?_
    clear E a; intro a E
    refine S_v E rfl (R_assign E rfl) rfl ?_
    clear E a; intro a E
    refine WL_nil ?_
    refine T_n ?_
    refine WP_ret ?_
    exact F_ret1 E Tryz.results76 rfl ⟨_, rfl, M_1, hM_1, (by rw [show (entE l0) = (srtK Prod.fst (lastsT (l0.drop k) (l0.take k))) from by (rw [List.take_of_length_le (show l0.length ≤ k by omega), List.drop_eq_nil_of_le (show l0.length ≤ k by omega)]; first | exact entE_lasts l0 | exact (entE_lasts l0).symm)]; exact hs3_0), S⟩

set_option maxRecDepth 100000 in
set_option maxHeartbeats 4000000 in
theorem spec_Sorted {M : Hp} {v0 : Value} {l0 : List Int} (h0 : RdI M v0 l0) (hb : l0.length ≤ 1000000000000) :
    Pu Tryz.prog (.func (.func 50) #[] #[]) M [v0] (fun r M' => RdI M' r (sortI l0)) := by
  refine Pu_enter Tryz.func50 rfl Tryz.ntmps50 rfl Tryz.call50 ?_
  intro a w M1 H hM1 S E
  replace h0 := h0.le hM1
  have b0 := h0.bound
  refine WP_seq ?_
  refine WP_region ?_
  refine S_v E rfl (R_assign E rfl) rfl ?_
  clear E a; intro a E
  refine WL_nil ?_
  refine T_n ?_
  refine WP_seq ?_
  refine WP_region ?_
  refine S_v E rfl (R_assign E rfl) rfl ?_
  clear E a; intro a E
  refine WL_nil ?_
  refine T_n ?_
  refine WP_seq ?_
  refine WP_seq ?_
  refine WP_region ?_
  refine S_v E rfl (R_move E rfl) rfl ?_
  clear E a; intro a E
  refine S_v E rfl (R_lenV E rfl T22 h0.len) rfl ?_
  clear E a; intro a E
  refine S_v E rfl (R_move E rfl) rfl ?_
  clear E a; intro a E
  refine WL_nil ?_
  refine T_n ?_
  refine WP_block ?_
  replace S := (S.ownNil (e := 3) (sz := 1)).made0
  replace S := S.re1 (l' := sortI (l0.take 0)) (by first | (simp [sortI]; done) | (rw [sortI_take (by assumption), ← ins_at (j := j) (by omega) (by intro y hy; have h9 := hL1_1 y hy; rw [show l0[k]? = some _ by assumption] at h9; exact h9) (by first | (left; omega) | (right; exact ⟨_, by assumption, by assumption⟩))]; done) | (rw [sortI_take (by assumption), ← ins_at (j := j) (by omega) (by intro y hy; have h9 := hL1_1 y hy; rw [show l0[k]? = some _ by assumption] at h9; exact h9) (by first | (left; omega) | (right; exact ⟨_, by assumption, by assumption⟩))]; simp; done))
  refine WP_loop (γ := Nat) (fun (k : Nat) a w => ∃ (M_2 : Hp) (u3 : Value), Hp.le M1 M_2 ∧ St w M_2 (OwnI 3 u3 (sortI (l0.take k)) :: H) ∧ Env a 41 [] [(3, u3), (7, v0), (8, .int .i64 (((l0).length : Nat) : Int)), (9, .int .i64 ((k : Nat) : Int))] ∧ (k ≤ (l0).length)) (fun k => ((l0).length) - k) 0 ⟨M1, _, Hp.le.refl _, S, E.keep ⟨rfl, rfl, rfl, rfl, trivial⟩, by ((try clear S); (try clear E); first | assumption | omega | rfl | (simp; done) | (simp_all; done) | (simp [List.take_add_one, *]; done) | grind [List.take_add_one])⟩ ?_
  try clear E
  try clear S
  try clear a
  try clear w
  rintro k a w ⟨M_2, u3, hM_2, S, E, hL0_0⟩
  replace h0 := h0.le hM_2
  have hsl := sortI_len (l0.take k); simp only [List.length_take] at hsl
  refine WP_seq ?_
  refine WP_region ?_
  refine S_v E rfl (R_lss E rfl rfl) rfl ?_
  clear E a; intro a E
  refine WL_nil ?_
  refine T_n ?_
  refine WP_seq ?_
  refine WP_cond E rfl (fun hc_3 => ?_) (fun hc_3 => ?_)
  · replace hc_3 := of_decide_eq_true hc_3
    refine WP_skip ?_
    refine T_n ?_
    refine WP_seq ?_
    refine WP_block ?_
    refine WP_seq ?_
    refine WP_region ?_
    obtain ⟨x_4, hx_4⟩ : ∃ x, (l0)[k]? = some x := ⟨_, List.getElem?_eq_getElem (by first | omega | (simp; done) | (simp; omega) | (simp_all; omega))⟩
    obtain ⟨p_5, hp_5, qp_5⟩ := h0.at hx_4
    refine S_v E rfl (R_idx E rfl rfl T22 hp_5 rfl) rfl ?_
    clear E a; intro a E
    refine S_v E rfl (R_loadM E rfl Tryz.isAgg3 S.imm qp_5) rfl ?_
    clear E a; intro a E
    refine S_v E rfl (R_assign E rfl) rfl ?_
    clear E a; intro a E
    refine WL_nil ?_
    refine T_n ?_
    refine WP_seq ?_
    refine WP_region ?_
    refine S_v E rfl (R_assign E rfl) rfl ?_
    clear E a; intro a E
    refine WL_nil ?_
    refine T_n ?_
    refine WP_seq ?_
    refine WP_block ?_
    refine WP_loop (γ := Nat) (fun (j : Nat) a w => ∃ (M_6 : Hp), Hp.le M_2 M_6 ∧ St w M_6 (OwnI 3 u3 (sortI (l0.take k)) :: H) ∧ Env a 41 [] [(3, u3), (5, .int .i64 x_4), (6, .int .i64 ((j : Nat) : Int)), (7, v0), (8, .int .i64 (((l0).length : Nat) : Int)), (9, .int .i64 ((k : Nat) : Int))] ∧ (j ≤ (sortI (l0.take k)).length) ∧ (∀ y ∈ (sortI (l0.take k)).take j, y ≤ (l0[k]?.getD 0))) (fun j => (sortI (l0.take k)).length - j) 0 ⟨M_2, Hp.le.refl _, S, E.keep ⟨rfl, rfl, rfl, rfl, rfl, rfl, trivial⟩, (by omega), (by simp)⟩ ?_
    try clear E
    try clear S
    try clear a
    try clear w
    rintro j a w ⟨M_6, hM_6, S, E, hL1_0, hL1_1⟩
    replace h0 := h0.le hM_6
    refine WP_seq ?_
    refine WP_seq ?_
    refine WP_region ?_
    refine S_v E rfl (R_move E rfl) rfl ?_
    clear E a; intro a E
    refine S_v E rfl (R_move E rfl) rfl ?_
    clear E a; intro a E
    refine S_v E rfl (R_lenV E rfl T22 S.lenC) rfl ?_
    clear E a; intro a E
    refine S_v E rfl (R_lss E rfl rfl) rfl ?_
    clear E a; intro a E
    refine S_v E rfl (R_move E rfl) rfl ?_
    clear E a; intro a E
    refine split_bool (decide (((j : Nat) : Int) < (((sortI (l0.take k)).length : Nat) : Int))) (fun hc_7 => ?_) (fun hc_7 => ?_)
    · replace E := E.val (t := 16) rfl hc_7
      replace E := E.val (t := 17) rfl hc_7
      replace hc_7 := of_decide_eq_true hc_7
      refine WL_guard_yes E rfl rfl ?_
      refine S_v E rfl (R_move E rfl) rfl ?_
      clear E a; intro a E
      refine WL_guard_yes E rfl rfl ?_
      refine S_v E rfl (R_move E rfl) rfl ?_
      clear E a; intro a E
      obtain ⟨p_8, hp_8⟩ := S.ptrC (k := j) (by first | omega | (simp; done) | (simp; omega) | (simp_all; omega))
      refine WL_guard_yes E rfl rfl ?_
      refine S_v E rfl (R_idx E rfl rfl T22 hp_8 rfl) rfl ?_
      clear E a; intro a E
      obtain ⟨x_9, hx_9⟩ : ∃ x, (sortI (l0.take k))[j]? = some x := ⟨_, List.getElem?_eq_getElem (by first | omega | (simp; done) | (simp; omega) | (simp_all; omega))⟩
      refine WL_guard_yes E rfl rfl ?_
      refine S_v E rfl (R_load E rfl (Tryz.isAgg3 _) (S.cellI hp_8 hx_9)) rfl ?_
      clear E a; intro a E
      refine WL_guard_yes E rfl rfl ?_
      refine S_v E rfl (R_move E rfl) rfl ?_
      clear E a; intro a E
      refine WL_guard_yes E rfl rfl ?_
      refine S_v E rfl (R_leq E rfl rfl) rfl ?_
      clear E a; intro a E
      refine S_v E rfl (R_pickT E rfl rfl) rfl ?_
      clear E a; intro a E
      refine WL_nil ?_
      refine T_n ?_
      refine WP_cond E rfl (fun hc_10 => ?_) (fun hc_10 => ?_)
      · replace hc_10 := of_decide_eq_true hc_10
        refine WP_skip ?_
        refine T_n ?_
        refine WP_block ?_
        refine WP_region ?_
        refine S_v E rfl (R_move E rfl) rfl ?_
        clear E a; intro a E
        refine S_v E rfl (R_addx (m := ((j + 1 : Nat) : Int)) E rfl rfl (by omega) (by omega)) rfl ?_
        clear E a; intro a E
        refine S_v E rfl (R_assign E rfl) rfl ?_
        clear E a; intro a E
        refine WL_nil ?_
        refine B_n ?_
        refine T_n ?_
        exact ⟨j + 1, ⟨M_6, hM_6, S, E.keep ⟨rfl, rfl, rfl, rfl, rfl, rfl, trivial⟩, (by omega), (by exact take_all (P := fun y => y ≤ (l0[k]?.getD 0)) hL1_1 (by assumption) (by rw [show l0[k]? = some _ by assumption]; assumption))⟩, by omega⟩
      · replace hc_10 := of_decide_eq_false hc_10
        refine WP_exit ?_
        refine T_x ?_
        refine T_x ?_
        refine B_x ?_
        refine T_n ?_
        refine DG_start Tryz.mixed ?_
        refine DG_split 0 6 (by decide) (by kernel_rfl) ?_ ?_
        · refine DG_split 4 6 (by decide) (by kernel_rfl) ?_ ?_
          · replace S := S.mono_heap (w' := World.drew _) rfl
            refine DG_end (C := fun x w => agree M_6 w) (bf := (fun i => [])) [1, 2, 3, 5, 8, 9, 10, 12] [1, 2, 3, 5, 8, 9, 10, 0, 4, 6, 7, 11, 12] (by kernel_rfl) (fun x hq => S.imm) ?_
            refine D_v E rfl rfl rfl (fun w hC => (R_move E rfl)) ?_
            clear E a; intro a E
            refine D_v E rfl rfl rfl (fun w hC => (R_move E rfl)) ?_
            clear E a; intro a E
            have S0 := S; clear S
            obtain ⟨M_11, hM_11, hz_12, S⟩ := S0.freezeI (by (first | omega | (simp; omega) | (simp; done) | (simp_all; omega) | grind))
            clear S0
            replace h0 := h0.le hM_11
            obtain ⟨v_13, sv_13, hv_13⟩ := hz_12.subv 0 j (by first | omega | (simp; done) | (simp; omega) | (simp_all; omega)) (by first | omega | (simp; done) | (simp; omega) | (simp_all; omega))
            simp only [List.drop_zero] at hv_13
            replace hv_13 : RdI M_11 v_13 ((sortI (l0.take k)).take j) := hv_13
            refine D_v E rfl rfl rfl (fun w hC => (R_sliceH E rfl rfl T22 sv_13 (by omega))) ?_
            clear E a; intro a E
            refine D_v E rfl rfl rfl (fun w hC => (R_move E rfl)) ?_
            clear E a; intro a E
            refine D_v E rfl rfl rfl (fun w hC => (R_move E rfl)) ?_
            clear E a; intro a E
            refine D_v E rfl rfl rfl (fun w hC => (R_move E rfl)) ?_
            clear E a; intro a E
            obtain ⟨v_14, sv_14, hv_14⟩ := hz_12.subv j ((sortI (l0.take k)).length) (by first | omega | (simp; done) | (simp; omega) | (simp_all; omega)) (by first | omega | (simp; done) | (simp; omega) | (simp_all; omega))
            simp only [List.take_length] at hv_14
            replace hv_14 : RdI M_11 v_14 ((sortI (l0.take k)).drop j) := hv_14
            refine D_v E rfl rfl rfl (fun w hC => (R_sliceL E rfl rfl T22 hz_12.len sv_14 (by omega))) ?_
            clear E a; intro a E
            refine D_x rfl rfl rfl (X_buildI (ys := []) E S rfl T22 rfl rfl rfl ?_)
            clear E a S; rintro a w v_15 E S
            refine ⟨fun x hq hb => (agree_le hM_11 S.imm), ?_⟩
            refine D_x rfl rfl rfl (X_appendI (xs := ([] : List Int)) E S rfl rfl rfl T22 hv_13 (by first | omega | (simp; done) | (simp; omega) | (simp_all; omega)) ?_)
            clear E a S; rintro a w v_16 E S
            refine ⟨fun x hq hb => (agree_le hM_11 S.imm), ?_⟩
            refine D_x rfl rfl rfl (X_buildI (ys := [x_4]) E S rfl T22 rfl rfl rfl ?_)
            clear E a S; rintro a w v_17 E S
            refine ⟨fun x hq hb => (agree_le hM_11 S.imm), ?_⟩
            replace S := S.front1
            replace S := S.front1
            refine D_x rfl rfl rfl (X_appendB (xs := [] ++ ((sortI (l0.take k)).take j)) (ys := [x_4]) E S rfl rfl rfl T22 (by first | omega | (simp; done) | (simp; omega) | (simp_all; omega)) ?_)
            clear E a S; rintro a w v_18 E S
            refine ⟨fun x hq hb => (agree_le hM_11 S.imm), ?_⟩
            refine D_x rfl rfl rfl (X_appendI (xs := ([] ++ ((sortI (l0.take k)).take j)) ++ [x_4]) E S rfl rfl rfl T22 hv_14 (by first | omega | (simp; done) | (simp; omega) | (simp_all; omega)) ?_)
            clear E a S; rintro a w v_19 E S
            refine ⟨fun x hq hb => (agree_le hM_11 S.imm), ?_⟩
            refine D_v E rfl rfl rfl (fun w hC => (R_assign E rfl)) ?_
            clear E a; intro a E
            refine D_end (NoP_n ?_)
            refine B_n ?_
            refine T_n ?_
            refine WP_region ?_
            refine S_v E rfl (R_addx (m := ((k + 1 : Nat) : Int)) E rfl rfl (by omega) (by omega)) rfl ?_
            clear E a; intro a E
            refine S_v E rfl (R_move E rfl) rfl ?_
            clear E a; intro a E
            refine WL_nil ?_
            refine T_n ?_
            replace S := S.re1 (l' := sortI (l0.take (k + 1))) (by first | (simp [sortI]; done) | (rw [sortI_take (by assumption), ← ins_at (j := j) (by omega) (by intro y hy; have h9 := hL1_1 y hy; rw [show l0[k]? = some _ by assumption] at h9; exact h9) (by first | (left; omega) | (right; exact ⟨_, by assumption, by assumption⟩))]; done) | (rw [sortI_take (by assumption), ← ins_at (j := j) (by omega) (by intro y hy; have h9 := hL1_1 y hy; rw [show l0[k]? = some _ by assumption] at h9; exact h9) (by first | (left; omega) | (right; exact ⟨_, by assumption, by assumption⟩))]; simp; done))
            exact ⟨k + 1, ⟨M_11, _, (hM_2.trans (hM_6.trans hM_11)), S, E.keep ⟨rfl, rfl, rfl, rfl, trivial⟩, by ((try clear S); (try clear E); first | assumption | omega | rfl | (simp; done) | (simp_all; done) | (simp [List.take_add_one, *]; done) | grind [List.take_add_one])⟩, by omega⟩
          · replace S := S.mono_heap (w' := World.drew _) rfl
            refine DG_end (C := fun x w => agree M_6 w) (bf := (fun i => [])) [1, 2, 3, 5, 8, 9, 10, 12] [1, 2, 3, 5, 8, 9, 10, 0, 6, 4, 7, 11, 12] (by kernel_rfl) (fun x hq => S.imm) ?_
            refine D_v E rfl rfl rfl (fun w hC => (R_move E rfl)) ?_
            clear E a; intro a E
            refine D_v E rfl rfl rfl (fun w hC => (R_move E rfl)) ?_
            clear E a; intro a E
            have S0 := S; clear S
            obtain ⟨M_20, hM_20, hz_21, S⟩ := S0.freezeI (by (first | omega | (simp; omega) | (simp; done) | (simp_all; omega) | grind))
            clear S0
            replace h0 := h0.le hM_20
            obtain ⟨v_22, sv_22, hv_22⟩ := hz_21.subv 0 j (by first | omega | (simp; done) | (simp; omega) | (simp_all; omega)) (by first | omega | (simp; done) | (simp; omega) | (simp_all; omega))
            simp only [List.drop_zero] at hv_22
            replace hv_22 : RdI M_20 v_22 ((sortI (l0.take k)).take j) := hv_22
            refine D_v E rfl rfl rfl (fun w hC => (R_sliceH E rfl rfl T22 sv_22 (by omega))) ?_
            clear E a; intro a E
            refine D_v E rfl rfl rfl (fun w hC => (R_move E rfl)) ?_
            clear E a; intro a E
            refine D_v E rfl rfl rfl (fun w hC => (R_move E rfl)) ?_
            clear E a; intro a E
            refine D_v E rfl rfl rfl (fun w hC => (R_move E rfl)) ?_
            clear E a; intro a E
            obtain ⟨v_23, sv_23, hv_23⟩ := hz_21.subv j ((sortI (l0.take k)).length) (by first | omega | (simp; done) | (simp; omega) | (simp_all; omega)) (by first | omega | (simp; done) | (simp; omega) | (simp_all; omega))
            simp only [List.take_length] at hv_23
            replace hv_23 : RdI M_20 v_23 ((sortI (l0.take k)).drop j) := hv_23
            refine D_v E rfl rfl rfl (fun w hC => (R_sliceL E rfl rfl T22 hz_21.len sv_23 (by omega))) ?_
            clear E a; intro a E
            refine D_x rfl rfl rfl (X_buildI (ys := []) E S rfl T22 rfl rfl rfl ?_)
            clear E a S; rintro a w v_24 E S
            refine ⟨fun x hq hb => (agree_le hM_20 S.imm), ?_⟩
            refine D_x rfl rfl rfl (X_buildI (ys := [x_4]) E S rfl T22 rfl rfl rfl ?_)
            clear E a S; rintro a w v_25 E S
            refine ⟨fun x hq hb => (agree_le hM_20 S.imm), ?_⟩
            replace S := S.front1
            refine D_x rfl rfl rfl (X_appendI (xs := ([] : List Int)) E S rfl rfl rfl T22 hv_22 (by first | omega | (simp; done) | (simp; omega) | (simp_all; omega)) ?_)
            clear E a S; rintro a w v_26 E S
            refine ⟨fun x hq hb => (agree_le hM_20 S.imm), ?_⟩
            replace S := S.front1
            refine D_x rfl rfl rfl (X_appendB (xs := [] ++ ((sortI (l0.take k)).take j)) (ys := [x_4]) E S rfl rfl rfl T22 (by first | omega | (simp; done) | (simp; omega) | (simp_all; omega)) ?_)
            clear E a S; rintro a w v_27 E S
            refine ⟨fun x hq hb => (agree_le hM_20 S.imm), ?_⟩
            refine D_x rfl rfl rfl (X_appendI (xs := ([] ++ ((sortI (l0.take k)).take j)) ++ [x_4]) E S rfl rfl rfl T22 hv_23 (by first | omega | (simp; done) | (simp; omega) | (simp_all; omega)) ?_)
            clear E a S; rintro a w v_28 E S
            refine ⟨fun x hq hb => (agree_le hM_20 S.imm), ?_⟩
            refine D_v E rfl rfl rfl (fun w hC => (R_assign E rfl)) ?_
            clear E a; intro a E
            refine D_end (NoP_n ?_)
            refine B_n ?_
            refine T_n ?_
            refine WP_region ?_
            refine S_v E rfl (R_addx (m := ((k + 1 : Nat) : Int)) E rfl rfl (by omega) (by omega)) rfl ?_
            clear E a; intro a E
            refine S_v E rfl (R_move E rfl) rfl ?_
            clear E a; intro a E
            refine WL_nil ?_
            refine T_n ?_
            replace S := S.re1 (l' := sortI (l0.take (k + 1))) (by first | (simp [sortI]; done) | (rw [sortI_take (by assumption), ← ins_at (j := j) (by omega) (by intro y hy; have h9 := hL1_1 y hy; rw [show l0[k]? = some _ by assumption] at h9; exact h9) (by first | (left; omega) | (right; exact ⟨_, by assumption, by assumption⟩))]; done) | (rw [sortI_take (by assumption), ← ins_at (j := j) (by omega) (by intro y hy; have h9 := hL1_1 y hy; rw [show l0[k]? = some _ by assumption] at h9; exact h9) (by first | (left; omega) | (right; exact ⟨_, by assumption, by assumption⟩))]; simp; done))
            exact ⟨k + 1, ⟨M_20, _, (hM_2.trans (hM_6.trans hM_20)), S, E.keep ⟨rfl, rfl, rfl, rfl, trivial⟩, by ((try clear S); (try clear E); first | assumption | omega | rfl | (simp; done) | (simp_all; done) | (simp [List.take_add_one, *]; done) | grind [List.take_add_one])⟩, by omega⟩
        · replace S := S.mono_heap (w' := World.drew _) rfl
          refine DG_end (C := fun x w => agree M_6 w) (bf := (fun i => [])) [1, 2, 3, 5, 8, 9, 10, 12] [1, 2, 3, 5, 8, 9, 10, 6, 0, 4, 7, 11, 12] (by kernel_rfl) (fun x hq => S.imm) ?_
          refine D_v E rfl rfl rfl (fun w hC => (R_move E rfl)) ?_
          clear E a; intro a E
          refine D_v E rfl rfl rfl (fun w hC => (R_move E rfl)) ?_
          clear E a; intro a E
          have S0 := S; clear S
          obtain ⟨M_29, hM_29, hz_30, S⟩ := S0.freezeI (by (first | omega | (simp; omega) | (simp; done) | (simp_all; omega) | grind))
          clear S0
          replace h0 := h0.le hM_29
          obtain ⟨v_31, sv_31, hv_31⟩ := hz_30.subv 0 j (by first | omega | (simp; done) | (simp; omega) | (simp_all; omega)) (by first | omega | (simp; done) | (simp; omega) | (simp_all; omega))
          simp only [List.drop_zero] at hv_31
          replace hv_31 : RdI M_29 v_31 ((sortI (l0.take k)).take j) := hv_31
          refine D_v E rfl rfl rfl (fun w hC => (R_sliceH E rfl rfl T22 sv_31 (by omega))) ?_
          clear E a; intro a E
          refine D_v E rfl rfl rfl (fun w hC => (R_move E rfl)) ?_
          clear E a; intro a E
          refine D_v E rfl rfl rfl (fun w hC => (R_move E rfl)) ?_
          clear E a; intro a E
          refine D_v E rfl rfl rfl (fun w hC => (R_move E rfl)) ?_
          clear E a; intro a E
          obtain ⟨v_32, sv_32, hv_32⟩ := hz_30.subv j ((sortI (l0.take k)).length) (by first | omega | (simp; done) | (simp; omega) | (simp_all; omega)) (by first | omega | (simp; done) | (simp; omega) | (simp_all; omega))
          simp only [List.take_length] at hv_32
          replace hv_32 : RdI M_29 v_32 ((sortI (l0.take k)).drop j) := hv_32
          refine D_v E rfl rfl rfl (fun w hC => (R_sliceL E rfl rfl T22 hz_30.len sv_32 (by omega))) ?_
          clear E a; intro a E
          refine D_x rfl rfl rfl (X_buildI (ys := [x_4]) E S rfl T22 rfl rfl rfl ?_)
          clear E a S; rintro a w v_33 E S
          refine ⟨fun x hq hb => (agree_le hM_29 S.imm), ?_⟩
          refine D_x rfl rfl rfl (X_buildI (ys := []) E S rfl T22 rfl rfl rfl ?_)
          clear E a S; rintro a w v_34 E S
          refine ⟨fun x hq hb => (agree_le hM_29 S.imm), ?_⟩
          refine D_x rfl rfl rfl (X_appendI (xs := ([] : List Int)) E S rfl rfl rfl T22 hv_31 (by first | omega | (simp; done) | (simp; omega) | (simp_all; omega)) ?_)
          clear E a S; rintro a w v_35 E S
          refine ⟨fun x hq hb => (agree_le hM_29 S.imm), ?_⟩
          replace S := S.front1
          refine D_x rfl rfl rfl (X_appendB (xs := [] ++ ((sortI (l0.take k)).take j)) (ys := [x_4]) E S rfl rfl rfl T22 (by first | omega | (simp; done) | (simp; omega) | (simp_all; omega)) ?_)
          clear E a S; rintro a w v_36 E S
          refine ⟨fun x hq hb => (agree_le hM_29 S.imm), ?_⟩
          refine D_x rfl rfl rfl (X_appendI (xs := ([] ++ ((sortI (l0.take k)).take j)) ++ [x_4]) E S rfl rfl rfl T22 hv_32 (by first | omega | (simp; done) | (simp; omega) | (simp_all; omega)) ?_)
          clear E a S; rintro a w v_37 E S
          refine ⟨fun x hq hb => (agree_le hM_29 S.imm), ?_⟩
          refine D_v E rfl rfl rfl (fun w hC => (R_assign E rfl)) ?_
          clear E a; intro a E
          refine D_end (NoP_n ?_)
          refine B_n ?_
          refine T_n ?_
          refine WP_region ?_
          refine S_v E rfl (R_addx (m := ((k + 1 : Nat) : Int)) E rfl rfl (by omega) (by omega)) rfl ?_
          clear E a; intro a E
          refine S_v E rfl (R_move E rfl) rfl ?_
          clear E a; intro a E
          refine WL_nil ?_
          refine T_n ?_
          replace S := S.re1 (l' := sortI (l0.take (k + 1))) (by first | (simp [sortI]; done) | (rw [sortI_take (by assumption), ← ins_at (j := j) (by omega) (by intro y hy; have h9 := hL1_1 y hy; rw [show l0[k]? = some _ by assumption] at h9; exact h9) (by first | (left; omega) | (right; exact ⟨_, by assumption, by assumption⟩))]; done) | (rw [sortI_take (by assumption), ← ins_at (j := j) (by omega) (by intro y hy; have h9 := hL1_1 y hy; rw [show l0[k]? = some _ by assumption] at h9; exact h9) (by first | (left; omega) | (right; exact ⟨_, by assumption, by assumption⟩))]; simp; done))
          exact ⟨k + 1, ⟨M_29, _, (hM_2.trans (hM_6.trans hM_29)), S, E.keep ⟨rfl, rfl, rfl, rfl, trivial⟩, by ((try clear S); (try clear E); first | assumption | omega | rfl | (simp; done) | (simp_all; done) | (simp [List.take_add_one, *]; done) | grind [List.take_add_one])⟩, by omega⟩
    · replace E := E.val (t := 16) rfl hc_7
      replace E := E.val (t := 17) rfl hc_7
      replace hc_7 := of_decide_eq_false hc_7
      refine WL_guard_no E rfl rfl rfl rfl fun a E => ?_
      refine WL_guard_no E rfl rfl rfl rfl fun a E => ?_
      refine WL_guard_no E rfl rfl rfl rfl fun a E => ?_
      refine WL_guard_no E rfl rfl rfl rfl fun a E => ?_
      refine WL_guard_no E rfl rfl rfl rfl fun a E => ?_
      refine WL_guard_no E rfl rfl rfl rfl fun a E => ?_
      refine S_v E rfl (R_pickF E rfl rfl) rfl ?_
      clear E a; intro a E
      refine WL_nil ?_
      refine T_n ?_
      refine WP_condF E rfl rfl ?_
      refine WP_exit ?_
      refine T_x ?_
      refine T_x ?_
      refine B_x ?_
      refine T_n ?_
      refine DG_start Tryz.mixed ?_
      refine DG_split 0 6 (by decide) (by kernel_rfl) ?_ ?_
      · refine DG_split 4 6 (by decide) (by kernel_rfl) ?_ ?_
        · replace S := S.mono_heap (w' := World.drew _) rfl
          refine DG_end (C := fun x w => agree M_6 w) (bf := (fun i => [])) [1, 2, 3, 5, 8, 9, 10, 12] [1, 2, 3, 5, 8, 9, 10, 0, 4, 6, 7, 11, 12] (by kernel_rfl) (fun x hq => S.imm) ?_
          refine D_v E rfl rfl rfl (fun w hC => (R_move E rfl)) ?_
          clear E a; intro a E
          refine D_v E rfl rfl rfl (fun w hC => (R_move E rfl)) ?_
          clear E a; intro a E
          have S0 := S; clear S
          obtain ⟨M_38, hM_38, hz_39, S⟩ := S0.freezeI (by (first | omega | (simp; omega) | (simp; done) | (simp_all; omega) | grind))
          clear S0
          replace h0 := h0.le hM_38
          obtain ⟨v_40, sv_40, hv_40⟩ := hz_39.subv 0 j (by first | omega | (simp; done) | (simp; omega) | (simp_all; omega)) (by first | omega | (simp; done) | (simp; omega) | (simp_all; omega))
          simp only [List.drop_zero] at hv_40
          replace hv_40 : RdI M_38 v_40 ((sortI (l0.take k)).take j) := hv_40
          refine D_v E rfl rfl rfl (fun w hC => (R_sliceH E rfl rfl T22 sv_40 (by omega))) ?_
          clear E a; intro a E
          refine D_v E rfl rfl rfl (fun w hC => (R_move E rfl)) ?_
          clear E a; intro a E
          refine D_v E rfl rfl rfl (fun w hC => (R_move E rfl)) ?_
          clear E a; intro a E
          refine D_v E rfl rfl rfl (fun w hC => (R_move E rfl)) ?_
          clear E a; intro a E
          obtain ⟨v_41, sv_41, hv_41⟩ := hz_39.subv j ((sortI (l0.take k)).length) (by first | omega | (simp; done) | (simp; omega) | (simp_all; omega)) (by first | omega | (simp; done) | (simp; omega) | (simp_all; omega))
          simp only [List.take_length] at hv_41
          replace hv_41 : RdI M_38 v_41 ((sortI (l0.take k)).drop j) := hv_41
          refine D_v E rfl rfl rfl (fun w hC => (R_sliceL E rfl rfl T22 hz_39.len sv_41 (by omega))) ?_
          clear E a; intro a E
          refine D_x rfl rfl rfl (X_buildI (ys := []) E S rfl T22 rfl rfl rfl ?_)
          clear E a S; rintro a w v_42 E S
          refine ⟨fun x hq hb => (agree_le hM_38 S.imm), ?_⟩
          refine D_x rfl rfl rfl (X_appendI (xs := ([] : List Int)) E S rfl rfl rfl T22 hv_40 (by first | omega | (simp; done) | (simp; omega) | (simp_all; omega)) ?_)
          clear E a S; rintro a w v_43 E S
          refine ⟨fun x hq hb => (agree_le hM_38 S.imm), ?_⟩
          refine D_x rfl rfl rfl (X_buildI (ys := [x_4]) E S rfl T22 rfl rfl rfl ?_)
          clear E a S; rintro a w v_44 E S
          refine ⟨fun x hq hb => (agree_le hM_38 S.imm), ?_⟩
          replace S := S.front1
          replace S := S.front1
          refine D_x rfl rfl rfl (X_appendB (xs := [] ++ ((sortI (l0.take k)).take j)) (ys := [x_4]) E S rfl rfl rfl T22 (by first | omega | (simp; done) | (simp; omega) | (simp_all; omega)) ?_)
          clear E a S; rintro a w v_45 E S
          refine ⟨fun x hq hb => (agree_le hM_38 S.imm), ?_⟩
          refine D_x rfl rfl rfl (X_appendI (xs := ([] ++ ((sortI (l0.take k)).take j)) ++ [x_4]) E S rfl rfl rfl T22 hv_41 (by first | omega | (simp; done) | (simp; omega) | (simp_all; omega)) ?_)
          clear E a S; rintro a w v_46 E S
          refine ⟨fun x hq hb => (agree_le hM_38 S.imm), ?_⟩
          refine D_v E rfl rfl rfl (fun w hC => (R_assign E rfl)) ?_
          clear E a; intro a E
          refine D_end (NoP_n ?_)
          refine B_n ?_
          refine T_n ?_
          refine WP_region ?_
          refine S_v E rfl (R_addx (m := ((k + 1 : Nat) : Int)) E rfl rfl (by omega) (by omega)) rfl ?_
          clear E a; intro a E
          refine S_v E rfl (R_move E rfl) rfl ?_
          clear E a; intro a E
          refine WL_nil ?_
          refine T_n ?_
          replace S := S.re1 (l' := sortI (l0.take (k + 1))) (by first | (simp [sortI]; done) | (rw [sortI_take (by assumption), ← ins_at (j := j) (by omega) (by intro y hy; have h9 := hL1_1 y hy; rw [show l0[k]? = some _ by assumption] at h9; exact h9) (by first | (left; omega) | (right; exact ⟨_, by assumption, by assumption⟩))]; done) | (rw [sortI_take (by assumption), ← ins_at (j := j) (by omega) (by intro y hy; have h9 := hL1_1 y hy; rw [show l0[k]? = some _ by assumption] at h9; exact h9) (by first | (left; omega) | (right; exact ⟨_, by assumption, by assumption⟩))]; simp; done))
          exact ⟨k + 1, ⟨M_38, _, (hM_2.trans (hM_6.trans hM_38)), S, E.keep ⟨rfl, rfl, rfl, rfl, trivial⟩, by ((try clear S); (try clear E); first | assumption | omega | rfl | (simp; done) | (simp_all; done) | (simp [List.take_add_one, *]; done) | grind [List.take_add_one])⟩, by omega⟩
        · replace S := S.mono_heap (w' := World.drew _) rfl
          refine DG_end (C := fun x w => agree M_6 w) (bf := (fun i => [])) [1, 2, 3, 5, 8, 9, 10, 12] [1, 2, 3, 5, 8, 9, 10, 0, 6, 4, 7, 11, 12] (by kernel_rfl) (fun x hq => S.imm) ?_
          refine D_v E rfl rfl rfl (fun w hC => (R_move E rfl)) ?_
          clear E a; intro a E
          refine D_v E rfl rfl rfl (fun w hC => (R_move E rfl)) ?_
          clear E a; intro a E
          have S0 := S; clear S
          obtain ⟨M_47, hM_47, hz_48, S⟩ := S0.freezeI (by (first | omega | (simp; omega) | (simp; done) | (simp_all; omega) | grind))
          clear S0
          replace h0 := h0.le hM_47
          obtain ⟨v_49, sv_49, hv_49⟩ := hz_48.subv 0 j (by first | omega | (simp; done) | (simp; omega) | (simp_all; omega)) (by first | omega | (simp; done) | (simp; omega) | (simp_all; omega))
          simp only [List.drop_zero] at hv_49
          replace hv_49 : RdI M_47 v_49 ((sortI (l0.take k)).take j) := hv_49
          refine D_v E rfl rfl rfl (fun w hC => (R_sliceH E rfl rfl T22 sv_49 (by omega))) ?_
          clear E a; intro a E
          refine D_v E rfl rfl rfl (fun w hC => (R_move E rfl)) ?_
          clear E a; intro a E
          refine D_v E rfl rfl rfl (fun w hC => (R_move E rfl)) ?_
          clear E a; intro a E
          refine D_v E rfl rfl rfl (fun w hC => (R_move E rfl)) ?_
          clear E a; intro a E
          obtain ⟨v_50, sv_50, hv_50⟩ := hz_48.subv j ((sortI (l0.take k)).length) (by first | omega | (simp; done) | (simp; omega) | (simp_all; omega)) (by first | omega | (simp; done) | (simp; omega) | (simp_all; omega))
          simp only [List.take_length] at hv_50
          replace hv_50 : RdI M_47 v_50 ((sortI (l0.take k)).drop j) := hv_50
          refine D_v E rfl rfl rfl (fun w hC => (R_sliceL E rfl rfl T22 hz_48.len sv_50 (by omega))) ?_
          clear E a; intro a E
          refine D_x rfl rfl rfl (X_buildI (ys := []) E S rfl T22 rfl rfl rfl ?_)
          clear E a S; rintro a w v_51 E S
          refine ⟨fun x hq hb => (agree_le hM_47 S.imm), ?_⟩
          refine D_x rfl rfl rfl (X_buildI (ys := [x_4]) E S rfl T22 rfl rfl rfl ?_)
          clear E a S; rintro a w v_52 E S
          refine ⟨fun x hq hb => (agree_le hM_47 S.imm), ?_⟩
          replace S := S.front1
          refine D_x rfl rfl rfl (X_appendI (xs := ([] : List Int)) E S rfl rfl rfl T22 hv_49 (by first | omega | (simp; done) | (simp; omega) | (simp_all; omega)) ?_)
          clear E a S; rintro a w v_53 E S
          refine ⟨fun x hq hb => (agree_le hM_47 S.imm), ?_⟩
          replace S := S.front1
          refine D_x rfl rfl rfl (X_appendB (xs := [] ++ ((sortI (l0.take k)).take j)) (ys := [x_4]) E S rfl rfl rfl T22 (by first | omega | (simp; done) | (simp; omega) | (simp_all; omega)) ?_)
          clear E a S; rintro a w v_54 E S
          refine ⟨fun x hq hb => (agree_le hM_47 S.imm), ?_⟩
          refine D_x rfl rfl rfl (X_appendI (xs := ([] ++ ((sortI (l0.take k)).take j)) ++ [x_4]) E S rfl rfl rfl T22 hv_50 (by first | omega | (simp; done) | (simp; omega) | (simp_all; omega)) ?_)
          clear E a S; rintro a w v_55 E S
          refine ⟨fun x hq hb => (agree_le hM_47 S.imm), ?_⟩
          refine D_v E rfl rfl rfl (fun w hC => (R_assign E rfl)) ?_
          clear E a; intro a E
          refine D_end (NoP_n ?_)
          refine B_n ?_
          refine T_n ?_
          refine WP_region ?_
          refine S_v E rfl (R_addx (m := ((k + 1 : Nat) : Int)) E rfl rfl (by omega) (by omega)) rfl ?_
          clear E a; intro a E
          refine S_v E rfl (R_move E rfl) rfl ?_
          clear E a; intro a E
          refine WL_nil ?_
          refine T_n ?_
          replace S := S.re1 (l' := sortI (l0.take (k + 1))) (by first | (simp [sortI]; done) | (rw [sortI_take (by assumption), ← ins_at (j := j) (by omega) (by intro y hy; have h9 := hL1_1 y hy; rw [show l0[k]? = some _ by assumption] at h9; exact h9) (by first | (left; omega) | (right; exact ⟨_, by assumption, by assumption⟩))]; done) | (rw [sortI_take (by assumption), ← ins_at (j := j) (by omega) (by intro y hy; have h9 := hL1_1 y hy; rw [show l0[k]? = some _ by assumption] at h9; exact h9) (by first | (left; omega) | (right; exact ⟨_, by assumption, by assumption⟩))]; simp; done))
          exact ⟨k + 1, ⟨M_47, _, (hM_2.trans (hM_6.trans hM_47)), S, E.keep ⟨rfl, rfl, rfl, rfl, trivial⟩, by ((try clear S); (try clear E); first | assumption | omega | rfl | (simp; done) | (simp_all; done) | (simp [List.take_add_one, *]; done) | grind [List.take_add_one])⟩, by omega⟩
      · replace S := S.mono_heap (w' := World.drew _) rfl
        refine DG_end (C := fun x w => agree M_6 w) (bf := (fun i => [])) [1, 2, 3, 5, 8, 9, 10, 12] [1, 2, 3, 5, 8, 9, 10, 6, 0, 4, 7, 11, 12] (by kernel_rfl) (fun x hq => S.imm) ?_
        refine D_v E rfl rfl rfl (fun w hC => (R_move E rfl)) ?_
        clear E a; intro a E
        refine D_v E rfl rfl rfl (fun w hC => (R_move E rfl)) ?_
        clear E a; intro a E
        have S0 := S; clear S
        obtain ⟨M_56, hM_56, hz_57, S⟩ := S0.freezeI (by (first | omega | (simp; omega) | (simp; done) | (simp_all; omega) | grind))
        clear S0
        replace h0 := h0.le hM_56
        obtain ⟨v_58, sv_58, hv_58⟩ := hz_57.subv 0 j (by first | omega | (simp; done) | (simp; omega) | (simp_all; omega)) (by first | omega | (simp; done) | (simp; omega) | (simp_all; omega))
        simp only [List.drop_zero] at hv_58
        replace hv_58 : RdI M_56 v_58 ((sortI (l0.take k)).take j) := hv_58
        refine D_v E rfl rfl rfl (fun w hC => (R_sliceH E rfl rfl T22 sv_58 (by omega))) ?_
        clear E a; intro a E
        refine D_v E rfl rfl rfl (fun w hC => (R_move E rfl)) ?_
        clear E a; intro a E
        refine D_v E rfl rfl rfl (fun w hC => (R_move E rfl)) ?_
        clear E a; intro a E
        refine D_v E rfl rfl rfl (fun w hC => (R_move E rfl)) ?_
        clear E a; intro a E
        obtain ⟨v_59, sv_59, hv_59⟩ := hz_57.subv j ((sortI (l0.take k)).length) (by first | omega | (simp; done) | (simp; omega) | (simp_all; omega)) (by first | omega | (simp; done) | (simp; omega) | (simp_all; omega))
        simp only [List.take_length] at hv_59
        replace hv_59 : RdI M_56 v_59 ((sortI (l0.take k)).drop j) := hv_59
        refine D_v E rfl rfl rfl (fun w hC => (R_sliceL E rfl rfl T22 hz_57.len sv_59 (by omega))) ?_
        clear E a; intro a E
        refine D_x rfl rfl rfl (X_buildI (ys := [x_4]) E S rfl T22 rfl rfl rfl ?_)
        clear E a S; rintro a w v_60 E S
        refine ⟨fun x hq hb => (agree_le hM_56 S.imm), ?_⟩
        refine D_x rfl rfl rfl (X_buildI (ys := []) E S rfl T22 rfl rfl rfl ?_)
        clear E a S; rintro a w v_61 E S
        refine ⟨fun x hq hb => (agree_le hM_56 S.imm), ?_⟩
        refine D_x rfl rfl rfl (X_appendI (xs := ([] : List Int)) E S rfl rfl rfl T22 hv_58 (by first | omega | (simp; done) | (simp; omega) | (simp_all; omega)) ?_)
        clear E a S; rintro a w v_62 E S
        refine ⟨fun x hq hb => (agree_le hM_56 S.imm), ?_⟩
        replace S := S.front1
        refine D_x rfl rfl rfl (X_appendB (xs := [] ++ ((sortI (l0.take k)).take j)) (ys := [x_4]) E S rfl rfl rfl T22 (by first | omega | (simp; done) | (simp; omega) | (simp_all; omega)) ?_)
        clear E a S; rintro a w v_63 E S
        refine ⟨fun x hq hb => (agree_le hM_56 S.imm), ?_⟩
        refine D_x rfl rfl rfl (X_appendI (xs := ([] ++ ((sortI (l0.take k)).take j)) ++ [x_4]) E S rfl rfl rfl T22 hv_59 (by first | omega | (simp; done) | (simp; omega) | (simp_all; omega)) ?_)
        clear E a S; rintro a w v_64 E S
        refine ⟨fun x hq hb => (agree_le hM_56 S.imm), ?_⟩
        refine D_v E rfl rfl rfl (fun w hC => (R_assign E rfl)) ?_
        clear E a; intro a E
        refine D_end (NoP_n ?_)
        refine B_n ?_
        refine T_n ?_
        refine WP_region ?_
        refine S_v E rfl (R_addx (m := ((k + 1 : Nat) : Int)) E rfl rfl (by omega) (by omega)) rfl ?_
        clear E a; intro a E
        refine S_v E rfl (R_move E rfl) rfl ?_
        clear E a; intro a E
        refine WL_nil ?_
        refine T_n ?_
        replace S := S.re1 (l' := sortI (l0.take (k + 1))) (by first | (simp [sortI]; done) | (rw [sortI_take (by assumption), ← ins_at (j := j) (by omega) (by intro y hy; have h9 := hL1_1 y hy; rw [show l0[k]? = some _ by assumption] at h9; exact h9) (by first | (left; omega) | (right; exact ⟨_, by assumption, by assumption⟩))]; done) | (rw [sortI_take (by assumption), ← ins_at (j := j) (by omega) (by intro y hy; have h9 := hL1_1 y hy; rw [show l0[k]? = some _ by assumption] at h9; exact h9) (by first | (left; omega) | (right; exact ⟨_, by assumption, by assumption⟩))]; simp; done))
        exact ⟨k + 1, ⟨M_56, _, (hM_2.trans (hM_6.trans hM_56)), S, E.keep ⟨rfl, rfl, rfl, rfl, trivial⟩, by ((try clear S); (try clear E); first | assumption | omega | rfl | (simp; done) | (simp_all; done) | (simp [List.take_add_one, *]; done) | grind [List.take_add_one])⟩, by omega⟩
  · replace hc_3 := of_decide_eq_false hc_3
    refine WP_exit ?_
    refine T_x ?_
    refine T_x ?_
    refine B_x ?_
    refine T_n ?_
    refine WP_seq ?_
    refine WP_region ?_
    refine S_v E rfl (R_move E rfl) rfl ?_
    clear E a; intro a E
    refine S_v E rfl (R_assign E rfl) rfl ?_
    clear E a; intro a E
    refine WL_nil ?_
    refine T_n ?_
    refine WP_ret ?_
    have S0 := S; clear S
    obtain ⟨M_65, hM_65, hz_66, S⟩ := S0.freezeI (by (first | omega | (simp; omega) | (simp; done) | (simp_all; omega) | grind))
    clear S0
    replace h0 := h0.le hM_65
    exact F_ret1 E Tryz.results50 rfl ⟨_, rfl, M_65, (hM_2.trans hM_65), (by rw [show (sortI l0) = (sortI (l0.take k)) from by (rw [List.take_of_length_le (by omega)])]; exact hz_66), S⟩

set_option maxRecDepth 100000 in
set_option maxHeartbeats 4000000 in
theorem spec_Keys {M : Hp} {v0 : Value} {l0 : List (List (Int × Int))} (h0 : RdS 1 (RSl 2 RP2) M v0 l0) (hb : l0.flatten.length ≤ 1000000000000) (hbl : l0.length ≤ 1000000000000) :
    Pu Tryz.prog (.func (.func 40) #[] #[]) M [v0] (fun r M' => RdI M' r (srtM (keysM l0))) := by
  refine Pu_enter Tryz.func40 rfl Tryz.ntmps40 rfl Tryz.call40 ?_
  intro a w M1 H hM1 S E
  replace h0 := h0.le (RSl_mono RP2_mono) hM1
  have b0 := h0.bound
  refine WP_seq ?_
  refine WP_region ?_
  refine S_v E rfl (R_assign E rfl) rfl ?_
  clear E a; intro a E
  refine WL_nil ?_
  refine T_n ?_
  refine WP_seq ?_
  refine WP_region ?_
  refine S_v E rfl (R_assign E rfl) rfl ?_
  clear E a; intro a E
  refine WL_nil ?_
  refine T_n ?_
  refine WP_seq ?_
  refine WP_seq ?_
  refine WP_region ?_
  refine S_v E rfl (R_move E rfl) rfl ?_
  clear E a; intro a E
  refine S_v E rfl (R_lenV E rfl T44 h0.len) rfl ?_
  clear E a; intro a E
  refine S_v E rfl (R_move E rfl) rfl ?_
  clear E a; intro a E
  refine WL_nil ?_
  refine T_n ?_
  refine WP_block ?_
  replace S := (S.ownNil (e := 3) (sz := 1)).made0
  replace S := S.re1 (l' := (((l0.take 0).map entE).flatten).map Prod.fst) (by first | (simp; done) | (rw [tk_snoc (by assumption), List.map_append, List.flatten_append, List.map_append, List.take_of_length_le (l := entE _) (by omega)]; simp; done))
  refine WP_loop (γ := Nat) (fun (k : Nat) a w => ∃ (M_2 : Hp) (u3 : Value), Hp.le M1 M_2 ∧ St w M_2 (OwnI 3 u3 ((((l0.take k).map entE).flatten).map Prod.fst) :: H) ∧ Env a 30 [] [(3, u3), (8, v0), (9, .int .i64 (((l0).length : Nat) : Int)), (10, .int .i64 ((k : Nat) : Int))] ∧ (k ≤ (l0).length)) (fun k => ((l0).length) - k) 0 ⟨M1, _, Hp.le.refl _, S, E.keep ⟨rfl, rfl, rfl, rfl, trivial⟩, by ((try clear S); (try clear E); first | assumption | omega | rfl | (simp; done) | (simp_all; done) | (simp [List.take_add_one, *]; done) | grind [List.take_add_one])⟩ ?_
  try clear E
  try clear S
  try clear a
  try clear w
  rintro k a w ⟨M_2, u3, hM_2, S, E, hL0_0⟩
  replace h0 := h0.le (RSl_mono RP2_mono) hM_2
  have hfe := fl_ent l0 k
  refine WP_seq ?_
  refine WP_region ?_
  refine S_v E rfl (R_lss E rfl rfl) rfl ?_
  clear E a; intro a E
  refine WL_nil ?_
  refine T_n ?_
  refine WP_seq ?_
  refine WP_cond E rfl (fun hc_3 => ?_) (fun hc_3 => ?_)
  · replace hc_3 := of_decide_eq_true hc_3
    refine WP_skip ?_
    refine T_n ?_
    refine WP_seq ?_
    refine WP_block ?_
    refine WP_seq ?_
    refine WP_region ?_
    obtain ⟨x_4, hx_4⟩ : ∃ x, (l0)[k]? = some x := ⟨_, List.getElem?_eq_getElem (by first | omega | (simp; done) | (simp; omega) | (simp_all; omega))⟩
    obtain ⟨p_5, u_6, hp_5, qp_5, hu_6⟩ := RdPP.at h0 hx_4
    have bu_6 := hu_6.bound
    refine S_v E rfl (R_idx E rfl rfl T44 hp_5 rfl) rfl ?_
    clear E a; intro a E
    refine S_v E rfl (R_loadM E rfl Tryz.isAgg32 S.imm qp_5) rfl ?_
    clear E a; intro a E
    refine S_v E rfl (R_assign E rfl) rfl ?_
    clear E a; intro a E
    refine WL_nil ?_
    refine T_n ?_
    refine WP_seq ?_
    refine WP_region ?_
    refine S_v E rfl (R_move E rfl) rfl ?_
    clear E a; intro a E
    refine S_x (X_pu E S rfl rfl rfl (spec_Entries hu_6 (by first | omega | (simp [ixm_len]; done) | (simp [ixm_len]; omega) | exact Nat.le_trans (fl_in (by assumption)) (by omega) | exact Nat.le_trans (kpix_len _ _ _) (by first | omega | (simp; omega)) | exact Nat.le_trans (fl_ent _ _) (by omega) | (rw [List.length_map]; exact Nat.le_trans (List.length_take_le _ _) (by omega)))) (Hp.le.refl _) ?_)
    clear E a S; rintro a v_8 w M_7 hM_7 hv_8 S E
    replace h0 := h0.le (RSl_mono RP2_mono) hM_7
    replace hu_6 := hu_6.le RP2_mono hM_7
    refine S_v E rfl (R_lenV E rfl T32 hv_8.len) rfl ?_
    clear E a; intro a E
    refine S_v E rfl (R_move E rfl) rfl ?_
    clear E a; intro a E
    refine WL_nil ?_
    refine T_n ?_
    refine WP_block ?_
    replace S := S.re1 (l' := (((l0.take k).map entE).flatten).map Prod.fst ++ ((entE x_4).take 0).map Prod.fst) (by first | (simp; done) | (rw [tk_snoc (l := entE _) (by assumption), List.map_append, List.append_assoc]; rfl))
    refine WP_loop (γ := Nat) (fun (j : Nat) a w => ∃ (M_9 : Hp) (u3 : Value), Hp.le M_7 M_9 ∧ St w M_9 (OwnI 3 u3 ((((l0.take k).map entE).flatten).map Prod.fst ++ ((entE x_4).take j).map Prod.fst) :: H) ∧ Env a 30 [] [(3, u3), (8, v0), (9, .int .i64 (((l0).length : Nat) : Int)), (10, .int .i64 ((k : Nat) : Int)), (15, v_8), (16, .int .i64 (((entE x_4).length : Nat) : Int)), (17, .int .i64 ((j : Nat) : Int))] ∧ (j ≤ (entE x_4).length)) (fun j => ((entE x_4).length) - j) 0 ⟨M_7, _, Hp.le.refl _, S, E.keep ⟨rfl, rfl, rfl, rfl, rfl, rfl, rfl, trivial⟩, by ((try clear S); (try clear E); first | assumption | omega | rfl | (simp; done) | (simp_all; done) | (simp [List.take_add_one, *]; done) | grind [List.take_add_one])⟩ ?_
    try clear E
    try clear S
    try clear a
    try clear w
    rintro j a w ⟨M_9, u3, hM_9, S, E, hL1_0⟩
    replace h0 := h0.le (RSl_mono RP2_mono) hM_9
    replace hu_6 := hu_6.le RP2_mono hM_9
    replace hv_8 := hv_8.le RP2_mono hM_9
    have hfe9 := fl_ent_lt hx_4
    refine WP_seq ?_
    refine WP_region ?_
    refine S_v E rfl (R_lss E rfl rfl) rfl ?_
    clear E a; intro a E
    refine WL_nil ?_
    refine T_n ?_
    refine WP_seq ?_
    refine WP_cond E rfl (fun hc_10 => ?_) (fun hc_10 => ?_)
    · replace hc_10 := of_decide_eq_true hc_10
      refine WP_skip ?_
      refine T_n ?_
      refine WP_seq ?_
      refine WP_block ?_
      refine WP_seq ?_
      refine WP_region ?_
      obtain ⟨x_11, hx_11⟩ : ∃ x, (entE x_4)[j]? = some x := ⟨_, List.getElem?_eq_getElem (by first | omega | (simp; done) | (simp; omega) | (simp_all; omega))⟩
      obtain ⟨p_12, hp_12, qp_12⟩ := RdP2.at hv_8 hx_11
      refine S_v E rfl (R_idx E rfl rfl T32 hp_12 rfl) rfl ?_
      clear E a; intro a E
      refine S_v E rfl (R_loadA (cs := [.int .i64 x_11.1, .int .i64 x_11.2]) E rfl (Tryz.isAgg55 _) (Tryz.sizeOf55 _) S.imm qp_12) rfl ?_
      clear E a; intro a E
      refine S_x (X_alloc (cs := #[.int .i64 0, .int .i64 0]) E S rfl Tryz.zeroValue55 rfl ?_)
      clear E a S; rintro a w b_13 E S
      refine S_x0 (X_storeG (us := [.int .i64 x_11.1, .int .i64 x_11.2]) E S rfl rfl (Tryz.sizeOf55 _) rfl (by intro u hu; simp only [List.mem_cons, List.not_mem_nil, or_false] at hu; rcases hu with rfl | rfl <;> first | exact rfl | exact rfl) ?_)
      clear E a S; rintro a w E S
      replace S : St w M_9 (blk b_13 (.cells #[.int .i64 x_11.1, .int .i64 x_11.2] 55) :: _) := S
      have S0 := S; clear S
      obtain ⟨M_14, hM_14, hb_15, S⟩ := S0.freezeB
      clear S0
      replace h0 := h0.le (RSl_mono RP2_mono) hM_14
      replace hu_6 := hu_6.le RP2_mono hM_14
      replace hv_8 := hv_8.le RP2_mono hM_14
      refine WL_nil ?_
      refine T_n ?_
      refine WP_region ?_
      refine S_v E rfl (R_move E rfl) rfl ?_
      clear E a; intro a E
      refine S_v E rfl (R_fieldAddr E rfl (FA55_0 _)) rfl ?_
      clear E a; intro a E
      refine S_v E rfl (R_loadM E rfl Tryz.isAgg3 S.imm (cellM_boxo hb_15 rfl)) rfl ?_
      clear E a; intro a E
      refine S_x (X_buildI (ys := [x_11.1]) E S rfl T22 rfl rfl rfl ?_)
      clear E a S; rintro a w v_16 E S
      replace S := S.front1
      replace S := S.front1
      refine S_x (X_appendB (xs := (((l0.take k).map entE).flatten).map Prod.fst ++ ((entE x_4).take j).map Prod.fst) (ys := [x_11.1]) E S rfl rfl rfl T22 (by (simp only [List.length_append, List.length_map, List.length_take, List.length_cons, List.length_nil] at *; omega)) ?_)
      clear E a S; rintro a w v_17 E S
      refine S_v E rfl (R_assign E rfl) rfl ?_
      clear E a; intro a E
      refine WL_nil ?_
      refine B_n ?_
      refine T_n ?_
      refine WP_region ?_
      refine S_v E rfl (R_addx (m := ((j + 1 : Nat) : Int)) E rfl rfl (by omega) (by omega)) rfl ?_
      clear E a; intro a E
      refine S_v E rfl (R_move E rfl) rfl ?_
      clear E a; intro a E
      refine WL_nil ?_
      refine T_n ?_
      replace S := S.re1 (l' := (((l0.take k).map entE).flatten).map Prod.fst ++ ((entE x_4).take (j + 1)).map Prod.fst) (by first | (simp; done) | (rw [tk_snoc (l := entE _) (by assumption), List.map_append, List.append_assoc]; rfl))
      exact ⟨j + 1, ⟨M_14, _, (hM_9.trans hM_14), S, E.keep ⟨rfl, rfl, rfl, rfl, rfl, rfl, rfl, trivial⟩, by ((try clear S); (try clear E); first | assumption | omega | rfl | (simp; done) | (simp_all; done) | (simp [List.take_add_one, *]; done) | grind [List.take_add_one])⟩, by omega⟩
    · replace hc_10 := of_decide_eq_false hc_10
      refine WP_exit ?_
      refine T_x ?_
      refine T_x ?_
      refine B_x ?_
      refine B_n ?_
      refine T_n ?_
      refine WP_region ?_
      refine S_v E rfl (R_addx (m := ((k + 1 : Nat) : Int)) E rfl rfl (by omega) (by omega)) rfl ?_
      clear E a; intro a E
      refine S_v E rfl (R_move E rfl) rfl ?_
      clear E a; intro a E
      refine WL_nil ?_
      refine T_n ?_
      replace S := S.re1 (l' := (((l0.take (k + 1)).map entE).flatten).map Prod.fst) (by first | (simp; done) | (rw [tk_snoc (by assumption), List.map_append, List.flatten_append, List.map_append, List.take_of_length_le (l := entE _) (by omega)]; simp; done))
      exact ⟨k + 1, ⟨M_9, _, (hM_2.trans (hM_7.trans hM_9)), S, E.keep ⟨rfl, rfl, rfl, rfl, trivial⟩, by ((try clear S); (try clear E); first | assumption | omega | rfl | (simp; done) | (simp_all; done) | (simp [List.take_add_one, *]; done) | grind [List.take_add_one])⟩, by omega⟩
  · replace hc_3 := of_decide_eq_false hc_3
    refine WP_exit ?_
    refine T_x ?_
    refine T_x ?_
    refine B_x ?_
    refine T_n ?_
    refine WP_seq ?_
    refine WP_region ?_
    refine S_v E rfl (R_move E rfl) rfl ?_
    clear E a; intro a E
    have S0 := S; clear S
    obtain ⟨M_18, hM_18, hz_19, S⟩ := S0.freezeI (by (first | omega | (rw [List.length_map]; have hfe := fl_ent l0 k; omega)))
    clear S0
    replace h0 := h0.le (RSl_mono RP2_mono) hM_18
    refine S_x (X_pu E S rfl rfl rfl (spec_Sorted hz_19 (by first | ((first | omega | (simp; omega) | (simp; done) | (simp_all; omega) | grind)) | (rw [List.length_map]; exact Nat.le_trans (fl_ent _ _) (by omega)))) (Hp.le.refl _) ?_)
    clear E a S; rintro a v_21 w M_20 hM_20 hv_21 S E
    replace h0 := h0.le (RSl_mono RP2_mono) hM_20
    replace hz_19 := hz_19.le hM_20
    refine S_v E rfl (R_assign E rfl) rfl ?_
    clear E a; intro a E
    refine WL_nil ?_
    refine T_n ?_
    refine WP_ret ?_
    exact F_ret1 E Tryz.results40 rfl ⟨_, rfl, M_20, (hM_2.trans (hM_18.trans hM_20)), (by rw [show (srtM (keysM l0)) = (sortI ((((l0.take k).map entE).flatten).map Prod.fst)) from by (exact spk_res (k := k) (by omega))]; exact hv_21), S⟩

set_option maxRecDepth 100000 in
set_option maxHeartbeats 4000000 in
theorem spec_MapItems {M : Hp} {v0 : Value} {l0 : List (List (Int × Int))} (h0 : RdS 1 (RSl 2 RP2) M v0 l0) (hb : l0.flatten.length ≤ 1000000000000) (hbl : l0.length ≤ 1000000000000) :
    Pu Tryz.prog (.func (.func 41) #[] #[]) M [v0] (fun r M' => RdI M' r (srtM (valsM l0))) := by
  refine Pu_enter Tryz.func41 rfl Tryz.ntmps41 rfl Tryz.call41 ?_
  intro a w M1 H hM1 S E
  replace h0 := h0.le (RSl_mono RP2_mono) hM1
  have b0 := h0.bound
  refine WP_seq ?_
  refine WP_region ?_
  refine S_v E rfl (R_assign E rfl) rfl ?_
  clear E a; intro a E
  refine WL_nil ?_
  refine T_n ?_
  refine WP_seq ?_
  refine WP_region ?_
  refine S_v E rfl (R_assign E rfl) rfl ?_
  clear E a; intro a E
  refine WL_nil ?_
  refine T_n ?_
  refine WP_seq ?_
  refine WP_seq ?_
  refine WP_region ?_
  refine S_v E rfl (R_move E rfl) rfl ?_
  clear E a; intro a E
  refine S_v E rfl (R_lenV E rfl T44 h0.len) rfl ?_
  clear E a; intro a E
  refine S_v E rfl (R_move E rfl) rfl ?_
  clear E a; intro a E
  refine WL_nil ?_
  refine T_n ?_
  refine WP_block ?_
  replace S := (S.ownNil (e := 3) (sz := 1)).made0
  replace S := S.re1 (l' := (((l0.take 0).map entE).flatten).map Prod.snd) (by first | (simp; done) | (rw [tk_snoc (by assumption), List.map_append, List.flatten_append, List.map_append, List.take_of_length_le (l := entE _) (by omega)]; simp; done))
  refine WP_loop (γ := Nat) (fun (k : Nat) a w => ∃ (M_2 : Hp) (u3 : Value), Hp.le M1 M_2 ∧ St w M_2 (OwnI 3 u3 ((((l0.take k).map entE).flatten).map Prod.snd) :: H) ∧ Env a 30 [] [(3, u3), (8, v0), (9, .int .i64 (((l0).length : Nat) : Int)), (10, .int .i64 ((k : Nat) : Int))] ∧ (k ≤ (l0).length)) (fun k => ((l0).length) - k) 0 ⟨M1, _, Hp.le.refl _, S, E.keep ⟨rfl, rfl, rfl, rfl, trivial⟩, by ((try clear S); (try clear E); first | assumption | omega | rfl | (simp; done) | (simp_all; done) | (simp [List.take_add_one, *]; done) | grind [List.take_add_one])⟩ ?_
  try clear E
  try clear S
  try clear a
  try clear w
  rintro k a w ⟨M_2, u3, hM_2, S, E, hL0_0⟩
  replace h0 := h0.le (RSl_mono RP2_mono) hM_2
  have hfe := fl_ent l0 k
  refine WP_seq ?_
  refine WP_region ?_
  refine S_v E rfl (R_lss E rfl rfl) rfl ?_
  clear E a; intro a E
  refine WL_nil ?_
  refine T_n ?_
  refine WP_seq ?_
  refine WP_cond E rfl (fun hc_3 => ?_) (fun hc_3 => ?_)
  · replace hc_3 := of_decide_eq_true hc_3
    refine WP_skip ?_
    refine T_n ?_
    refine WP_seq ?_
    refine WP_block ?_
    refine WP_seq ?_
    refine WP_region ?_
    obtain ⟨x_4, hx_4⟩ : ∃ x, (l0)[k]? = some x := ⟨_, List.getElem?_eq_getElem (by first | omega | (simp; done) | (simp; omega) | (simp_all; omega))⟩
    obtain ⟨p_5, u_6, hp_5, qp_5, hu_6⟩ := RdPP.at h0 hx_4
    have bu_6 := hu_6.bound
    refine S_v E rfl (R_idx E rfl rfl T44 hp_5 rfl) rfl ?_
    clear E a; intro a E
    refine S_v E rfl (R_loadM E rfl Tryz.isAgg32 S.imm qp_5) rfl ?_
    clear E a; intro a E
    refine S_v E rfl (R_assign E rfl) rfl ?_
    clear E a; intro a E
    refine WL_nil ?_
    refine T_n ?_
    refine WP_seq ?_
    refine WP_region ?_
    refine S_v E rfl (R_move E rfl) rfl ?_
    clear E a; intro a E
    refine S_x (X_pu E S rfl rfl rfl (spec_Entries hu_6 (by first | omega | (simp [ixm_len]; done) | (simp [ixm_len]; omega) | exact Nat.le_trans (fl_in (by assumption)) (by omega) | exact Nat.le_trans (kpix_len _ _ _) (by first | omega | (simp; omega)) | exact Nat.le_trans (fl_ent _ _) (by omega) | (rw [List.length_map]; exact Nat.le_trans (List.length_take_le _ _) (by omega)))) (Hp.le.refl _) ?_)
    clear E a S; rintro a v_8 w M_7 hM_7 hv_8 S E
    replace h0 := h0.le (RSl_mono RP2_mono) hM_7
    replace hu_6 := hu_6.le RP2_mono hM_7
    refine S_v E rfl (R_lenV E rfl T32 hv_8.len) rfl ?_
    clear E a; intro a E
    refine S_v E rfl (R_move E rfl) rfl ?_
    clear E a; intro a E
    refine WL_nil ?_
    refine T_n ?_
    refine WP_block ?_
    replace S := S.re1 (l' := (((l0.take k).map entE).flatten).map Prod.snd ++ ((entE x_4).take 0).map Prod.snd) (by first | (simp; done) | (rw [tk_snoc (l := entE _) (by assumption), List.map_append, List.append_assoc]; rfl))
    refine WP_loop (γ := Nat) (fun (j : Nat) a w => ∃ (M_9 : Hp) (u3 : Value), Hp.le M_7 M_9 ∧ St w M_9 (OwnI 3 u3 ((((l0.take k).map entE).flatten).map Prod.snd ++ ((entE x_4).take j).map Prod.snd) :: H) ∧ Env a 30 [] [(3, u3), (8, v0), (9, .int .i64 (((l0).length : Nat) : Int)), (10, .int .i64 ((k : Nat) : Int)), (15, v_8), (16, .int .i64 (((entE x_4).length : Nat) : Int)), (17, .int .i64 ((j : Nat) : Int))] ∧ (j ≤ (entE x_4).length)) (fun j => ((entE x_4).length) - j) 0 ⟨M_7, _, Hp.le.refl _, S, E.keep ⟨rfl, rfl, rfl, rfl, rfl, rfl, rfl, trivial⟩, by ((try clear S); (try clear E); first | assumption | omega | rfl | (simp; done) | (simp_all; done) | (simp [List.take_add_one, *]; done) | grind [List.take_add_one])⟩ ?_
    try clear E
    try clear S
    try clear a
    try clear w
    rintro j a w ⟨M_9, u3, hM_9, S, E, hL1_0⟩
    replace h0 := h0.le (RSl_mono RP2_mono) hM_9
    replace hu_6 := hu_6.le RP2_mono hM_9
    replace hv_8 := hv_8.le RP2_mono hM_9
    have hfe9 := fl_ent_lt hx_4
    refine WP_seq ?_
    refine WP_region ?_
    refine S_v E rfl (R_lss E rfl rfl) rfl ?_
    clear E a; intro a E
    refine WL_nil ?_
    refine T_n ?_
    refine WP_seq ?_
    refine WP_cond E rfl (fun hc_10 => ?_) (fun hc_10 => ?_)
    · replace hc_10 := of_decide_eq_true hc_10
      refine WP_skip ?_
      refine T_n ?_
      refine WP_seq ?_
      refine WP_block ?_
      refine WP_seq ?_
      refine WP_region ?_
      obtain ⟨x_11, hx_11⟩ : ∃ x, (entE x_4)[j]? = some x := ⟨_, List.getElem?_eq_getElem (by first | omega | (simp; done) | (simp; omega) | (simp_all; omega))⟩
      obtain ⟨p_12, hp_12, qp_12⟩ := RdP2.at hv_8 hx_11
      refine S_v E rfl (R_idx E rfl rfl T32 hp_12 rfl) rfl ?_
      clear E a; intro a E
      refine S_v E rfl (R_loadA (cs := [.int .i64 x_11.1, .int .i64 x_11.2]) E rfl (Tryz.isAgg55 _) (Tryz.sizeOf55 _) S.imm qp_12) rfl ?_
      clear E a; intro a E
      refine S_x (X_alloc (cs := #[.int .i64 0, .int .i64 0]) E S rfl Tryz.zeroValue55 rfl ?_)
      clear E a S; rintro a w b_13 E S
      refine S_x0 (X_storeG (us := [.int .i64 x_11.1, .int .i64 x_11.2]) E S rfl rfl (Tryz.sizeOf55 _) rfl (by intro u hu; simp only [List.mem_cons, List.not_mem_nil, or_false] at hu; rcases hu with rfl | rfl <;> first | exact rfl | exact rfl) ?_)
      clear E a S; rintro a w E S
      replace S : St w M_9 (blk b_13 (.cells #[.int .i64 x_11.1, .int .i64 x_11.2] 55) :: _) := S
      have S0 := S; clear S
      obtain ⟨M_14, hM_14, hb_15, S⟩ := S0.freezeB
      clear S0
      replace h0 := h0.le (RSl_mono RP2_mono) hM_14
      replace hu_6 := hu_6.le RP2_mono hM_14
      replace hv_8 := hv_8.le RP2_mono hM_14
      refine WL_nil ?_
      refine T_n ?_
      refine WP_region ?_
      refine S_v E rfl (R_move E rfl) rfl ?_
      clear E a; intro a E
      refine S_v E rfl (R_fieldAddr E rfl (FA55_1 _)) rfl ?_
      clear E a; intro a E
      refine S_v E rfl (R_loadM E rfl Tryz.isAgg3 S.imm (cellM_boxo hb_15 rfl)) rfl ?_
      clear E a; intro a E
      refine S_x (X_buildI (ys := [x_11.2]) E S rfl T22 rfl rfl rfl ?_)
      clear E a S; rintro a w v_16 E S
      replace S := S.front1
      replace S := S.front1
      refine S_x (X_appendB (xs := (((l0.take k).map entE).flatten).map Prod.snd ++ ((entE x_4).take j).map Prod.snd) (ys := [x_11.2]) E S rfl rfl rfl T22 (by (simp only [List.length_append, List.length_map, List.length_take, List.length_cons, List.length_nil] at *; omega)) ?_)
      clear E a S; rintro a w v_17 E S
      refine S_v E rfl (R_assign E rfl) rfl ?_
      clear E a; intro a E
      refine WL_nil ?_
      refine B_n ?_
      refine T_n ?_
      refine WP_region ?_
      refine S_v E rfl (R_addx (m := ((j + 1 : Nat) : Int)) E rfl rfl (by omega) (by omega)) rfl ?_
      clear E a; intro a E
      refine S_v E rfl (R_move E rfl) rfl ?_
      clear E a; intro a E
      refine WL_nil ?_
      refine T_n ?_
      replace S := S.re1 (l' := (((l0.take k).map entE).flatten).map Prod.snd ++ ((entE x_4).take (j + 1)).map Prod.snd) (by first | (simp; done) | (rw [tk_snoc (l := entE _) (by assumption), List.map_append, List.append_assoc]; rfl))
      exact ⟨j + 1, ⟨M_14, _, (hM_9.trans hM_14), S, E.keep ⟨rfl, rfl, rfl, rfl, rfl, rfl, rfl, trivial⟩, by ((try clear S); (try clear E); first | assumption | omega | rfl | (simp; done) | (simp_all; done) | (simp [List.take_add_one, *]; done) | grind [List.take_add_one])⟩, by omega⟩
    · replace hc_10 := of_decide_eq_false hc_10
      refine WP_exit ?_
      refine T_x ?_
      refine T_x ?_
      refine B_x ?_
      refine B_n ?_
      refine T_n ?_
      refine WP_region ?_
      refine S_v E rfl (R_addx (m := ((k + 1 : Nat) : Int)) E rfl rfl (by omega) (by omega)) rfl ?_
      clear E a; intro a E
      refine S_v E rfl (R_move E rfl) rfl ?_
      clear E a; intro a E
      refine WL_nil ?_
      refine T_n ?_
      replace S := S.re1 (l' := (((l0.take (k + 1)).map entE).flatten).map Prod.snd) (by first | (simp; done) | (rw [tk_snoc (by assumption), List.map_append, List.flatten_append, List.map_append, List.take_of_length_le (l := entE _) (by omega)]; simp; done))
      exact ⟨k + 1, ⟨M_9, _, (hM_2.trans (hM_7.trans hM_9)), S, E.keep ⟨rfl, rfl, rfl, rfl, trivial⟩, by ((try clear S); (try clear E); first | assumption | omega | rfl | (simp; done) | (simp_all; done) | (simp [List.take_add_one, *]; done) | grind [List.take_add_one])⟩, by omega⟩
  · replace hc_3 := of_decide_eq_false hc_3
    refine WP_exit ?_
    refine T_x ?_
    refine T_x ?_
    refine B_x ?_
    refine T_n ?_
    refine WP_seq ?_
    refine WP_region ?_
    refine S_v E rfl (R_move E rfl) rfl ?_
    clear E a; intro a E
    have S0 := S; clear S
    obtain ⟨M_18, hM_18, hz_19, S⟩ := S0.freezeI (by (first | omega | (rw [List.length_map]; have hfe := fl_ent l0 k; omega)))
    clear S0
    replace h0 := h0.le (RSl_mono RP2_mono) hM_18
    refine S_x (X_pu E S rfl rfl rfl (spec_Sorted hz_19 (by first | ((first | omega | (simp; omega) | (simp; done) | (simp_all; omega) | grind)) | (rw [List.length_map]; exact Nat.le_trans (fl_ent _ _) (by omega)))) (Hp.le.refl _) ?_)
    clear E a S; rintro a v_21 w M_20 hM_20 hv_21 S E
    replace h0 := h0.le (RSl_mono RP2_mono) hM_20
    replace hz_19 := hz_19.le hM_20
    refine S_v E rfl (R_assign E rfl) rfl ?_
    clear E a; intro a E
    refine WL_nil ?_
    refine T_n ?_
    refine WP_ret ?_
    exact F_ret1 E Tryz.results41 rfl ⟨_, rfl, M_20, (hM_2.trans (hM_18.trans hM_20)), (by rw [show (srtM (valsM l0)) = (sortI ((((l0.take k).map entE).flatten).map Prod.snd)) from by (exact spk_res (k := k) (by omega))]; exact hv_21), S⟩

set_option maxRecDepth 100000 in
set_option maxHeartbeats 4000000 in
theorem spec_same {M : Hp}  :
    Pu Tryz.prog (.func (.func 46) #[] #[]) M [] (fun r M' => r = .agg #[.int .i64 5, .int .i64 0]) := by
  refine Pu_enter Tryz.func46 rfl Tryz.ntmps46 rfl Tryz.call46 ?_
  intro a w M1 H hM1 S E
  refine WP_seq ?_
  refine WP_region ?_
  refine S_x (X_alloc (cs := #[.int .i64 0, .int .i64 0]) E S rfl Tryz.zeroValue53 rfl ?_)
  clear E a S; rintro a w b_1 E S
  refine WL_nil ?_
  refine T_n ?_
  refine WP_seq ?_
  refine WP_region ?_
  refine S_v E rfl (R_build (u := .agg #[.int .i64 5, .int .i64 0]) (vs := [.int .i64 5]) E rfl (fun w => FB53_0_i 5 w)) rfl ?_
  clear E a; intro a E
  refine S_x0 (X_storeG (us := [.int .i64 5, .int .i64 0]) E S rfl rfl (Tryz.sizeOf53 _) rfl (by intro u hu; simp only [List.mem_cons, List.not_mem_nil, or_false] at hu; rcases hu with rfl | rfl <;> first | exact rfl | exact rfl) ?_)
  clear E a S; rintro a w E S
  replace S : St w M1 (blk b_1 (.cells #[.int .i64 5, .int .i64 0] 53) :: _) := S
  refine WL_nil ?_
  refine T_n ?_
  refine WP_ret ?_
  replace S : St w M1 (mks [] :: _) := S.empty
  replace E : Env a 2 (([] : List Nat).map mk) _ := E
  replace S := S.front1
  replace S := S.front1
  exact F_retCG1 (cs := [.int .i64 5, .int .i64 0]) E S Tryz.results46 rfl (fun w => Tryz.isAgg53 w) (fun w => Tryz.sizeOf53 w) (fun w S => ⟨_, rfl, M1, (Hp.le.refl _), rfl, S.drop⟩)

set_option maxRecDepth 100000 in
set_option maxHeartbeats 4000000 in
theorem spec_mod {M : Hp} {x0 x1 : Int} (hn : x1 ≠ 0) (g0 : -9223372036854775808 ≤ x0 ∧ x0 ≤ 9223372036854775807) (g1 : -9223372036854775808 ≤ x1 ∧ x1 ≤ 9223372036854775807) :
    Pu Tryz.prog (.func (.func 107) #[] #[]) M [.int .i64 x0, .int .i64 x1] (fun r M' => r = .int .i64 (x0 % x1)) := by
  refine Pu_enter Tryz.func107 rfl Tryz.ntmps107 rfl Tryz.call107 ?_
  intro a w M1 H hM1 S E
  refine WP_seq ?_
  refine WP_region ?_
  refine S_v E rfl (R_assign E rfl) rfl ?_
  clear E a; intro a E
  refine WL_nil ?_
  refine T_n ?_
  refine WP_seq ?_
  refine WP_region ?_
  refine S_v E rfl (R_move E rfl) rfl ?_
  clear E a; intro a E
  refine S_v E rfl (R_convm (m := x1 % 18446744073709551616) E rfl Tryz.underlying3 Tryz.underlying117 (by first | (rw [u64_wrap]; omega) | (rw [u64_wrap]; simp; omega) | rw [u64_wrap])) rfl ?_
  clear E a; intro a E
  refine S_v E rfl (R_assign E rfl) rfl ?_
  clear E a; intro a E
  refine WL_nil ?_
  refine T_n ?_
  refine WP_seq ?_
  refine WP_seq ?_
  refine WP_region ?_
  refine S_v E rfl (R_move E rfl) rfl ?_
  clear E a; intro a E
  refine S_v E rfl (R_lss E rfl rfl) rfl ?_
  clear E a; intro a E
  refine WL_nil ?_
  refine T_n ?_
  refine WP_cond E rfl (fun hc_1 => ?_) (fun hc_1 => ?_)
  · replace hc_1 := of_decide_eq_true hc_1
    refine WP_region ?_
    refine S_v E rfl (R_move E rfl) rfl ?_
    clear E a; intro a E
    refine S_v E rfl (R_negm (m := -x1) E rfl (by first | (rw [u64_wrap]; omega) | rw [u64_wrap])) rfl ?_
    clear E a; intro a E
    refine S_v E rfl (R_assign E rfl) rfl ?_
    clear E a; intro a E
    refine WL_nil ?_
    refine T_n ?_
    refine WP_seq ?_
    refine WP_seq ?_
    refine WP_region ?_
    refine S_v E rfl (R_move E rfl) rfl ?_
    clear E a; intro a E
    refine S_v E rfl (R_geq E rfl rfl) rfl ?_
    clear E a; intro a E
    refine WL_nil ?_
    refine T_n ?_
    refine WP_cond E rfl (fun hc_2 => ?_) (fun hc_2 => ?_)
    · replace hc_2 := of_decide_eq_true hc_2
      refine WP_seq ?_
      refine WP_region ?_
      refine S_v E rfl (R_move E rfl) rfl ?_
      clear E a; intro a E
      refine S_v E rfl (R_convm (m := x0) E rfl Tryz.underlying3 Tryz.underlying117 (by first | (rw [u64_wrap]; omega) | (rw [u64_wrap]; simp; omega) | rw [u64_wrap])) rfl ?_
      clear E a; intro a E
      refine S_v E rfl (R_move E rfl) rfl ?_
      clear E a; intro a E
      have hr_3 := tmod_nn (p := x0) (q := -x1) (by omega) (by omega)
      refine S_v E rfl (R_rem E rfl rfl (by first | decide | omega)) rfl ?_
      clear E a; intro a E
      refine S_v E rfl (R_convx E rfl Tryz.underlying117 Tryz.underlying3 (by omega)) rfl ?_
      clear E a; intro a E
      refine S_v E rfl (R_assign E rfl) rfl ?_
      clear E a; intro a E
      refine WL_nil ?_
      refine T_n ?_
      refine WP_ret ?_
      refine T_r ?_
      exact F_ret1 E Tryz.results107 rfl ⟨_, rfl, M1, (Hp.le.refl _), (congrArg (Value.int .i64) (by (clear E S; first | (have en : x1 < 0 := (by omega); have e3 : x0 % (-x1) = x0 % x1 := Int.emod_neg ..; have a1 := modA x0 (-x1) (by omega); omega) | (have e : x1 % 18446744073709551616 = x1 := (by omega); simp only [e] at *; have a1 := modA x0 x1 (by omega); omega)))), S⟩
    · replace hc_2 := of_decide_eq_false hc_2
      refine WP_skip ?_
      refine T_n ?_
      refine WP_seq ?_
      refine WP_region ?_
      refine S_v E rfl (R_move E rfl) rfl ?_
      clear E a; intro a E
      refine S_v E rfl (R_convm (m := x0 % 18446744073709551616) E rfl Tryz.underlying3 Tryz.underlying117 (by first | (rw [u64_wrap]; omega) | (rw [u64_wrap]; simp; omega) | rw [u64_wrap])) rfl ?_
      clear E a; intro a E
      refine S_v E rfl (R_negm (m := -x0) E rfl (by first | (rw [u64_wrap]; omega) | rw [u64_wrap])) rfl ?_
      clear E a; intro a E
      refine S_v E rfl (R_move E rfl) rfl ?_
      clear E a; intro a E
      have hr_4 := tmod_nn (p := -x0) (q := -x1) (by omega) (by omega)
      refine S_v E rfl (R_rem E rfl rfl (by first | decide | omega)) rfl ?_
      clear E a; intro a E
      refine S_v E rfl (R_assign E rfl) rfl ?_
      clear E a; intro a E
      refine WL_nil ?_
      refine T_n ?_
      refine WP_seq ?_
      refine WP_seq ?_
      refine WP_region ?_
      refine S_v E rfl (R_move E rfl) rfl ?_
      clear E a; intro a E
      refine S_v E rfl (R_gtr E rfl rfl) rfl ?_
      clear E a; intro a E
      refine WL_nil ?_
      refine T_n ?_
      refine WP_cond E rfl (fun hc_5 => ?_) (fun hc_5 => ?_)
      · replace hc_5 := of_decide_eq_true hc_5
        refine WP_region ?_
        refine S_v E rfl (R_move E rfl) rfl ?_
        clear E a; intro a E
        refine S_v E rfl (R_move E rfl) rfl ?_
        clear E a; intro a E
        refine S_v E rfl (R_subm (m := (-x1) - (Int.tmod (-x0) (-x1))) E rfl rfl (by first | (rw [u64_wrap]; omega) | rw [u64_wrap])) rfl ?_
        clear E a; intro a E
        refine S_v E rfl (R_assign E rfl) rfl ?_
        clear E a; intro a E
        refine WL_nil ?_
        refine T_n ?_
        refine WP_seq ?_
        refine WP_region ?_
        refine S_v E rfl (R_move E rfl) rfl ?_
        clear E a; intro a E
        refine S_v E rfl (R_convx E rfl Tryz.underlying117 Tryz.underlying3 (by omega)) rfl ?_
        clear E a; intro a E
        refine S_v E rfl (R_assign E rfl) rfl ?_
        clear E a; intro a E
        refine WL_nil ?_
        refine T_n ?_
        refine WP_ret ?_
        exact F_ret1 E Tryz.results107 rfl ⟨_, rfl, M1, (Hp.le.refl _), (congrArg (Value.int .i64) (by (clear E S; first | (have en : x1 < 0 := (by omega); have e3 : x0 % (-x1) = x0 % x1 := Int.emod_neg ..; have a1 := modA x0 (-x1) (by omega); omega) | (have e : x1 % 18446744073709551616 = x1 := (by omega); simp only [e] at *; have a1 := modA x0 x1 (by omega); omega)))), S⟩
      · replace hc_5 := of_decide_eq_false hc_5
        refine WP_skip ?_
        refine T_n ?_
        refine WP_seq ?_
        refine WP_region ?_
        refine S_v E rfl (R_move E rfl) rfl ?_
        clear E a; intro a E
        refine S_v E rfl (R_convx E rfl Tryz.underlying117 Tryz.underlying3 (by omega)) rfl ?_
        clear E a; intro a E
        refine S_v E rfl (R_assign E rfl) rfl ?_
        clear E a; intro a E
        refine WL_nil ?_
        refine T_n ?_
        refine WP_ret ?_
        exact F_ret1 E Tryz.results107 rfl ⟨_, rfl, M1, (Hp.le.refl _), (congrArg (Value.int .i64) (by (clear E S; first | (have en : x1 < 0 := (by omega); have e3 : x0 % (-x1) = x0 % x1 := Int.emod_neg ..; have a1 := modA x0 (-x1) (by omega); omega) | (have e : x1 % 18446744073709551616 = x1 := (by omega); simp only [e] at *; have a1 := modA x0 x1 (by omega); omega)))), S⟩
  · replace hc_1 := of_decide_eq_false hc_1
    refine WP_skip ?_
    refine T_n ?_
    refine WP_seq ?_
    refine WP_seq ?_
    refine WP_region ?_
    refine S_v E rfl (R_move E rfl) rfl ?_
    clear E a; intro a E
    refine S_v E rfl (R_geq E rfl rfl) rfl ?_
    clear E a; intro a E
    refine WL_nil ?_
    refine T_n ?_
    refine WP_cond E rfl (fun hc_6 => ?_) (fun hc_6 => ?_)
    · replace hc_6 := of_decide_eq_true hc_6
      refine WP_seq ?_
      refine WP_region ?_
      refine S_v E rfl (R_move E rfl) rfl ?_
      clear E a; intro a E
      refine S_v E rfl (R_convm (m := x0) E rfl Tryz.underlying3 Tryz.underlying117 (by first | (rw [u64_wrap]; omega) | (rw [u64_wrap]; simp; omega) | rw [u64_wrap])) rfl ?_
      clear E a; intro a E
      refine S_v E rfl (R_move E rfl) rfl ?_
      clear E a; intro a E
      have hr_7 := tmod_nn (p := x0) (q := x1 % 18446744073709551616) (by omega) (by omega)
      refine S_v E rfl (R_rem E rfl rfl (by first | decide | omega)) rfl ?_
      clear E a; intro a E
      refine S_v E rfl (R_convx E rfl Tryz.underlying117 Tryz.underlying3 (by omega)) rfl ?_
      clear E a; intro a E
      refine S_v E rfl (R_assign E rfl) rfl ?_
      clear E a; intro a E
      refine WL_nil ?_
      refine T_n ?_
      refine WP_ret ?_
      refine T_r ?_
      exact F_ret1 E Tryz.results107 rfl ⟨_, rfl, M1, (Hp.le.refl _), (congrArg (Value.int .i64) (by (clear E S; first | (have en : x1 < 0 := (by omega); have e3 : x0 % (-x1) = x0 % x1 := Int.emod_neg ..; have a1 := modA x0 (-x1) (by omega); omega) | (have e : x1 % 18446744073709551616 = x1 := (by omega); simp only [e] at *; have a1 := modA x0 x1 (by omega); omega)))), S⟩
    · replace hc_6 := of_decide_eq_false hc_6
      refine WP_skip ?_
      refine T_n ?_
      refine WP_seq ?_
      refine WP_region ?_
      refine S_v E rfl (R_move E rfl) rfl ?_
      clear E a; intro a E
      refine S_v E rfl (R_convm (m := x0 % 18446744073709551616) E rfl Tryz.underlying3 Tryz.underlying117 (by first | (rw [u64_wrap]; omega) | (rw [u64_wrap]; simp; omega) | rw [u64_wrap])) rfl ?_
      clear E a; intro a E
      refine S_v E rfl (R_negm (m := -x0) E rfl (by first | (rw [u64_wrap]; omega) | rw [u64_wrap])) rfl ?_
      clear E a; intro a E
      refine S_v E rfl (R_move E rfl) rfl ?_
      clear E a; intro a E
      have hr_8 := tmod_nn (p := -x0) (q := x1 % 18446744073709551616) (by omega) (by omega)
      refine S_v E rfl (R_rem E rfl rfl (by first | decide | omega)) rfl ?_
      clear E a; intro a E
      refine S_v E rfl (R_assign E rfl) rfl ?_
      clear E a; intro a E
      refine WL_nil ?_
      refine T_n ?_
      refine WP_seq ?_
      refine WP_seq ?_
      refine WP_region ?_
      refine S_v E rfl (R_move E rfl) rfl ?_
      clear E a; intro a E
      refine S_v E rfl (R_gtr E rfl rfl) rfl ?_
      clear E a; intro a E
      refine WL_nil ?_
      refine T_n ?_
      refine WP_cond E rfl (fun hc_9 => ?_) (fun hc_9 => ?_)
      · replace hc_9 := of_decide_eq_true hc_9
        refine WP_region ?_
        refine S_v E rfl (R_move E rfl) rfl ?_
        clear E a; intro a E
        refine S_v E rfl (R_move E rfl) rfl ?_
        clear E a; intro a E
        refine S_v E rfl (R_subm (m := (x1 % 18446744073709551616) - (Int.tmod (-x0) (x1 % 18446744073709551616))) E rfl rfl (by first | (rw [u64_wrap]; omega) | rw [u64_wrap])) rfl ?_
        clear E a; intro a E
        refine S_v E rfl (R_assign E rfl) rfl ?_
        clear E a; intro a E
        refine WL_nil ?_
        refine T_n ?_
        refine WP_seq ?_
        refine WP_region ?_
        refine S_v E rfl (R_move E rfl) rfl ?_
        clear E a; intro a E
        refine S_v E rfl (R_convx E rfl Tryz.underlying117 Tryz.underlying3 (by omega)) rfl ?_
        clear E a; intro a E
        refine S_v E rfl (R_assign E rfl) rfl ?_
        clear E a; intro a E
        refine WL_nil ?_
        refine T_n ?_
        refine WP_ret ?_
        exact F_ret1 E Tryz.results107 rfl ⟨_, rfl, M1, (Hp.le.refl _), (congrArg (Value.int .i64) (by (clear E S; first | (have en : x1 < 0 := (by omega); have e3 : x0 % (-x1) = x0 % x1 := Int.emod_neg ..; have a1 := modA x0 (-x1) (by omega); omega) | (have e : x1 % 18446744073709551616 = x1 := (by omega); simp only [e] at *; have a1 := modA x0 x1 (by omega); omega)))), S⟩
      · replace hc_9 := of_decide_eq_false hc_9
        refine WP_skip ?_
        refine T_n ?_
        refine WP_seq ?_
        refine WP_region ?_
        refine S_v E rfl (R_move E rfl) rfl ?_
        clear E a; intro a E
        refine S_v E rfl (R_convx E rfl Tryz.underlying117 Tryz.underlying3 (by omega)) rfl ?_
        clear E a; intro a E
        refine S_v E rfl (R_assign E rfl) rfl ?_
        clear E a; intro a E
        refine WL_nil ?_
        refine T_n ?_
        refine WP_ret ?_
        exact F_ret1 E Tryz.results107 rfl ⟨_, rfl, M1, (Hp.le.refl _), (congrArg (Value.int .i64) (by (clear E S; first | (have en : x1 < 0 := (by omega); have e3 : x0 % (-x1) = x0 % x1 := Int.emod_neg ..; have a1 := modA x0 (-x1) (by omega); omega) | (have e : x1 % 18446744073709551616 = x1 := (by omega); simp only [e] at *; have a1 := modA x0 x1 (by omega); omega)))), S⟩

set_option maxRecDepth 100000 in
set_option maxHeartbeats 4000000 in
theorem SKey_Of_c {M : Hp} {kk0 kn0 : Int} (gk0 : -9223372036854775808 ≤ kn0 ∧ kn0 ≤ 9223372036854775807){x1 x2 : Int} (gx : -9223372036854775808 ≤ x1 ∧ x1 ≤ 9223372036854775807) :
    PuC Tryz.prog 96 M [.agg #[.int .i64 kk0, .int .i64 kn0], .int .i64 x1, .int .i64 x2] (fun r M' => r = .int .i64 (keyAt kk0 kn0 x1 x2)) := by
  refine PuC_enter Tryz.func96 rfl Tryz.ntmps96 rfl ?_
  intro a w M1 H hM1 S E
  refine WP_seq ?_
  refine WP_region ?_
  refine S_x (X_box (cs := #[.int .i64 kk0, .int .i64 kn0]) E S rfl rfl rfl ?_)
  clear E a S; rintro a w b_1 E S
  obtain ⟨M_2, hM_2, hb_1, S⟩ := S.freezeB
  refine S_v E rfl (R_assign E rfl) rfl ?_
  clear E a; intro a E
  refine WL_nil ?_
  refine T_n ?_
  refine WP_seq ?_
  refine WP_seq ?_
  refine WP_region ?_
  refine S_v E rfl (R_fieldAddr E rfl (FA53_0 _)) rfl ?_
  clear E a; intro a E
  refine S_v E rfl (R_loadM E rfl Tryz.isAgg3 S.imm (cellM_boxo hb_1 rfl)) rfl ?_
  clear E a; intro a E
  refine WL_nil ?_
  refine T_n ?_
  refine WP_block ?_
  refine WP_seq ?_
  refine WP_region ?_
  refine S_v E rfl (R_eql E rfl rfl) rfl ?_
  clear E a; intro a E
  refine S_v E rfl (R_assign E rfl) rfl ?_
  clear E a; intro a E
  refine WL_nil ?_
  refine T_n ?_
  refine WP_cond E rfl (fun hc_3 => ?_) (fun hc_3 => ?_)
  · replace hc_3 := of_decide_eq_true hc_3
    refine WP_seq ?_
    refine WP_region ?_
    refine S_v E rfl (R_move E rfl) rfl ?_
    clear E a; intro a E
    refine S_v E rfl (R_fieldAddr E rfl (FA53_1 _)) rfl ?_
    clear E a; intro a E
    refine S_v E rfl (R_loadM E rfl Tryz.isAgg3 S.imm (cellM_boxo hb_1 rfl)) rfl ?_
    clear E a; intro a E
    refine S_v E rfl (R_add E rfl rfl) rfl ?_
    clear E a; intro a E
    refine S_v E rfl (R_assign E rfl) rfl ?_
    clear E a; intro a E
    refine WL_nil ?_
    refine T_n ?_
    refine WP_ret ?_
    refine B_r ?_
    refine T_r ?_
    exact F_ret1 E Tryz.results96 rfl ⟨_, rfl, M_2, hM_2, (congrArg (Value.int .i64) (by (clear E S; unfold keyAt w64; first | (simp [*]; done) | (simp_all; done)))), S⟩
  · replace hc_3 := of_decide_eq_false hc_3
    refine WP_seq ?_
    refine WP_region ?_
    refine S_v E rfl (R_eql E rfl rfl) rfl ?_
    clear E a; intro a E
    refine S_v E rfl (R_assign E rfl) rfl ?_
    clear E a; intro a E
    refine WL_nil ?_
    refine T_n ?_
    refine WP_cond E rfl (fun hc_4 => ?_) (fun hc_4 => ?_)
    · replace hc_4 := of_decide_eq_true hc_4
      refine WP_seq ?_
      refine WP_region ?_
      refine S_v E rfl (R_move E rfl) rfl ?_
      clear E a; intro a E
      refine S_v E rfl (R_fieldAddr E rfl (FA53_1 _)) rfl ?_
      clear E a; intro a E
      refine S_v E rfl (R_loadM E rfl Tryz.isAgg3 S.imm (cellM_boxo hb_1 rfl)) rfl ?_
      clear E a; intro a E
      refine S_v E rfl (R_mul E rfl rfl) rfl ?_
      clear E a; intro a E
      refine S_v E rfl (R_assign E rfl) rfl ?_
      clear E a; intro a E
      refine WL_nil ?_
      refine T_n ?_
      refine WP_ret ?_
      refine B_r ?_
      refine T_r ?_
      exact F_ret1 E Tryz.results96 rfl ⟨_, rfl, M_2, hM_2, (congrArg (Value.int .i64) (by (clear E S; unfold keyAt w64; first | (simp [*]; done) | (simp_all; done)))), S⟩
    · replace hc_4 := of_decide_eq_false hc_4
      refine WP_seq ?_
      refine WP_region ?_
      refine S_v E rfl (R_eql E rfl rfl) rfl ?_
      clear E a; intro a E
      refine S_v E rfl (R_assign E rfl) rfl ?_
      clear E a; intro a E
      refine WL_nil ?_
      refine T_n ?_
      refine WP_cond E rfl (fun hc_5 => ?_) (fun hc_5 => ?_)
      · replace hc_5 := of_decide_eq_true hc_5
        refine WP_seq ?_
        refine WP_region ?_
        refine S_v E rfl (R_fieldAddr E rfl (FA53_1 _)) rfl ?_
        clear E a; intro a E
        refine S_v E rfl (R_loadM E rfl Tryz.isAgg3 S.imm (cellM_boxo hb_1 rfl)) rfl ?_
        clear E a; intro a E
        refine S_v E rfl (R_neq E rfl rfl) rfl ?_
        clear E a; intro a E
        refine WL_nil ?_
        refine T_n ?_
        refine WP_cond E rfl (fun hc_6 => ?_) (fun hc_6 => ?_)
        · replace hc_6 := of_decide_eq_true hc_6
          refine WP_seq ?_
          refine WP_region ?_
          refine S_v E rfl (R_move E rfl) rfl ?_
          clear E a; intro a E
          refine S_v E rfl (R_fieldAddr E rfl (FA53_1 _)) rfl ?_
          clear E a; intro a E
          refine S_v E rfl (R_loadM E rfl Tryz.isAgg3 S.imm (cellM_boxo hb_1 rfl)) rfl ?_
          clear E a; intro a E
          refine S_x (X_pu E S rfl rfl rfl (spec_mod (by first | omega | assumption) (by omega) (by omega)) (Hp.le.refl _) ?_)
          clear E a S; rintro a _ w M_7 hM_7 rfl S E
          replace hb_1 := hM_7.2 _ _ hb_1
          refine S_v E rfl (R_assign E rfl) rfl ?_
          clear E a; intro a E
          refine WL_nil ?_
          refine T_n ?_
          refine WP_ret ?_
          refine B_r ?_
          refine T_r ?_
          exact F_ret1 E Tryz.results96 rfl ⟨_, rfl, M_7, (hM_2.trans hM_7), (congrArg (Value.int .i64) (by (clear E S; unfold keyAt w64; first | (simp [*]; done) | (simp_all; done)))), S⟩
        · replace hc_6 := of_decide_eq_false hc_6
          refine WP_skip ?_
          refine B_n ?_
          refine T_n ?_
          refine WP_seq ?_
          refine WP_region ?_
          refine S_v E rfl (R_move E rfl) rfl ?_
          clear E a; intro a E
          refine S_v E rfl (R_assign E rfl) rfl ?_
          clear E a; intro a E
          refine WL_nil ?_
          refine T_n ?_
          refine WP_ret ?_
          exact F_ret1 E Tryz.results96 rfl ⟨_, rfl, M_2, hM_2, (congrArg (Value.int .i64) (by (clear E S; unfold keyAt w64; first | (simp [*]; done) | (simp_all; done)))), S⟩
      · replace hc_5 := of_decide_eq_false hc_5
        refine WP_seq ?_
        refine WP_region ?_
        refine S_v E rfl (R_eql E rfl rfl) rfl ?_
        clear E a; intro a E
        refine S_v E rfl (R_assign E rfl) rfl ?_
        clear E a; intro a E
        refine WL_nil ?_
        refine T_n ?_
        refine WP_cond E rfl (fun hc_8 => ?_) (fun hc_8 => ?_)
        · replace hc_8 := of_decide_eq_true hc_8
          refine WP_seq ?_
          refine WP_region ?_
          refine S_v E rfl (R_fieldAddr E rfl (FA53_1 _)) rfl ?_
          clear E a; intro a E
          refine S_v E rfl (R_loadM E rfl Tryz.isAgg3 S.imm (cellM_boxo hb_1 rfl)) rfl ?_
          clear E a; intro a E
          refine S_v E rfl (R_assign E rfl) rfl ?_
          clear E a; intro a E
          refine WL_nil ?_
          refine T_n ?_
          refine WP_ret ?_
          refine B_r ?_
          refine T_r ?_
          exact F_ret1 E Tryz.results96 rfl ⟨_, rfl, M_2, hM_2, (congrArg (Value.int .i64) (by (clear E S; unfold keyAt w64; first | (simp [*]; done) | (simp_all; done)))), S⟩
        · replace hc_8 := of_decide_eq_false hc_8
          refine WP_seq ?_
          refine WP_region ?_
          refine S_v E rfl (R_eql E rfl rfl) rfl ?_
          clear E a; intro a E
          refine S_v E rfl (R_assign E rfl) rfl ?_
          clear E a; intro a E
          refine WL_nil ?_
          refine T_n ?_
          refine WP_cond E rfl (fun hc_9 => ?_) (fun hc_9 => ?_)
          · replace hc_9 := of_decide_eq_true hc_9
            refine WP_seq ?_
            refine WP_region ?_
            refine S_v E rfl (R_move E rfl) rfl ?_
            clear E a; intro a E
            refine S_v E rfl (R_assign E rfl) rfl ?_
            clear E a; intro a E
            refine WL_nil ?_
            refine T_n ?_
            refine WP_ret ?_
            refine B_r ?_
            refine T_r ?_
            exact F_ret1 E Tryz.results96 rfl ⟨_, rfl, M_2, hM_2, (congrArg (Value.int .i64) (by (clear E S; unfold keyAt w64; first | (simp [*]; done) | (simp_all; done)))), S⟩
          · replace hc_9 := of_decide_eq_false hc_9
            refine WP_skip ?_
            refine B_n ?_
            refine T_n ?_
            refine WP_seq ?_
            refine WP_region ?_
            refine S_v E rfl (R_move E rfl) rfl ?_
            clear E a; intro a E
            refine S_v E rfl (R_assign E rfl) rfl ?_
            clear E a; intro a E
            refine WL_nil ?_
            refine T_n ?_
            refine WP_ret ?_
            exact F_ret1 E Tryz.results96 rfl ⟨_, rfl, M_2, hM_2, (congrArg (Value.int .i64) (by (clear E S; unfold keyAt w64; first | (simp [*]; done) | (simp_all; done)))), S⟩
theorem SKey_Of {M : Hp} {kk0 kn0 : Int} (gk0 : -9223372036854775808 ≤ kn0 ∧ kn0 ≤ 9223372036854775807){x1 x2 : Int} (gx : -9223372036854775808 ≤ x1 ∧ x1 ≤ 9223372036854775807) :
    Pu Tryz.prog (.func (.func 96) #[.agg #[.int .i64 kk0, .int .i64 kn0]] #[]) M [.int .i64 x1, .int .i64 x2] (fun r M' => r = .int .i64 (keyAt kk0 kn0 x1 x2)) := PuC.pu Tryz.call96 rfl (SKey_Of_c gk0 gx)
theorem SKey_Of_d {M : Hp} {kk0 kn0 : Int} (gk0 : -9223372036854775808 ≤ kn0 ∧ kn0 ≤ 9223372036854775807){x1 x2 : Int} (gx : -9223372036854775808 ≤ x1 ∧ x1 ≤ 9223372036854775807) :
    Pu Tryz.prog (.func (.func 96) #[] #[]) M [.agg #[.int .i64 kk0, .int .i64 kn0], .int .i64 x1, .int .i64 x2] (fun r M' => r = .int .i64 (keyAt kk0 kn0 x1 x2)) := PuC.pu Tryz.call96 rfl (SKey_Of_c gk0 gx)

set_option maxRecDepth 100000 in
set_option maxHeartbeats 4000000 in
theorem spec_keys {M : Hp} {v0 : Value} {l0 : List Int} (h0 : RdI M v0 l0){kk1 kn1 : Int} (gk1 : -9223372036854775808 ≤ kn1 ∧ kn1 ≤ 9223372036854775807) (hr0 : (∀ x ∈ l0, -9223372036854775808 ≤ x ∧ x ≤ 9223372036854775807)) (hb : l0.length ≤ 1000000000000) :
    Pu Tryz.prog (.func (.func 77) #[] #[]) M [v0, .agg #[.int .i64 kk1, .int .i64 kn1]] (fun r M' => RdI M' r ((l0).map (fun x => keyAt kk1 kn1 x 0))) := by
  refine Pu_enter Tryz.func77 rfl Tryz.ntmps77 rfl Tryz.call77 ?_
  intro a w M1 H hM1 S E
  replace h0 := h0.le hM1
  have b0 := h0.bound
  refine WP_seq ?_
  refine WP_region ?_
  refine S_x (X_box (cs := #[.int .i64 kk1, .int .i64 kn1]) E S rfl rfl rfl ?_)
  clear E a S; rintro a w b_1 E S
  obtain ⟨M_2, hM_2, hb_1, S⟩ := S.freezeB
  replace h0 := h0.le hM_2
  refine S_v E rfl (R_assign E rfl) rfl ?_
  clear E a; intro a E
  refine WL_nil ?_
  refine T_n ?_
  refine WP_seq ?_
  refine WP_region ?_
  refine S_v E rfl (R_assign E rfl) rfl ?_
  clear E a; intro a E
  refine WL_nil ?_
  refine T_n ?_
  refine WP_seq ?_
  refine WP_seq ?_
  refine WP_region ?_
  refine S_v E rfl (R_move E rfl) rfl ?_
  clear E a; intro a E
  refine S_v E rfl (R_lenV E rfl T22 h0.len) rfl ?_
  clear E a; intro a E
  refine S_v E rfl (R_move E rfl) rfl ?_
  clear E a; intro a E
  refine WL_nil ?_
  refine T_n ?_
  refine WP_block ?_
  replace S := (S.ownNil (e := 3) (sz := 1)).made0
  replace S := S.re1 (l' := (l0.take 0).map (fun x => keyAt kk1 kn1 x 0)) (by first | (simp; done) | (rw [map_take_s (fun x => keyAt kk1 kn1 x 0) (by assumption)]; done))
  refine WP_loop (γ := Nat) (fun (k : Nat) a w => ∃ (M_4 : Hp) (u5 : Value), Hp.le M_2 M_4 ∧ St w M_4 (OwnI 3 u5 ((l0.take k).map (fun x => keyAt kk1 kn1 x 0)) :: H) ∧ Env a 22 [] [(3, .pointer (some ⟨b_1, 0, none⟩)), (5, u5), (8, v0), (9, .int .i64 (((l0).length : Nat) : Int)), (10, .int .i64 ((k : Nat) : Int))] ∧ (k ≤ (l0).length)) (fun k => ((l0).length) - k) 0 ⟨M_2, _, Hp.le.refl _, S, E.keep ⟨rfl, rfl, rfl, rfl, rfl, trivial⟩, by ((try clear S); (try clear E); first | assumption | omega | rfl | (simp; done) | (simp_all; done) | (simp [List.take_add_one, *]; done) | grind [List.take_add_one])⟩ ?_
  try clear E
  try clear S
  try clear a
  try clear w
  rintro k a w ⟨M_4, u5, hM_4, S, E, hL0_0⟩
  replace h0 := h0.le hM_4
  replace hb_1 := hM_4.2 _ _ hb_1
  refine WP_seq ?_
  refine WP_region ?_
  refine S_v E rfl (R_lss E rfl rfl) rfl ?_
  clear E a; intro a E
  refine WL_nil ?_
  refine T_n ?_
  refine WP_seq ?_
  refine WP_cond E rfl (fun hc_5 => ?_) (fun hc_5 => ?_)
  · replace hc_5 := of_decide_eq_true hc_5
    refine WP_skip ?_
    refine T_n ?_
    refine WP_seq ?_
    refine WP_block ?_
    refine WP_seq ?_
    refine WP_region ?_
    obtain ⟨x_6, hx_6⟩ : ∃ x, (l0)[k]? = some x := ⟨_, List.getElem?_eq_getElem (by first | omega | (simp; done) | (simp; omega) | (simp_all; omega))⟩
    obtain ⟨p_7, hp_7, qp_7⟩ := h0.at hx_6
    refine S_v E rfl (R_idx E rfl rfl T22 hp_7 rfl) rfl ?_
    clear E a; intro a E
    refine S_v E rfl (R_loadM E rfl Tryz.isAgg3 S.imm qp_7) rfl ?_
    clear E a; intro a E
    refine S_v E rfl (R_assign E rfl) rfl ?_
    clear E a; intro a E
    refine WL_nil ?_
    refine T_n ?_
    refine WP_region ?_
    refine S_v E rfl (R_move E rfl) rfl ?_
    clear E a; intro a E
    refine S_v E rfl (R_loadGM E rfl (Tryz.isAgg53 _) (Tryz.sizeOf53 _) S.imm hb_1) rfl ?_
    clear E a; intro a E
    refine S_v E rfl (R_move E rfl) rfl ?_
    clear E a; intro a E
    refine S_x (X_pu E S rfl rfl rfl (SKey_Of_d (by omega) (by first | omega | assumption | exact hr0 _ (List.mem_of_getElem? (by assumption)) | exact zi2_rng hr0 (by assumption) | exact (ent_rng hr0 _ (List.mem_of_getElem? (by assumption))).1 | exact (ent_rng hr0 _ (List.mem_of_getElem? (by assumption))).2)) (Hp.le.refl _) ?_)
    clear E a S; rintro a _ w M_8 hM_8 rfl S E
    replace h0 := h0.le hM_8
    replace hb_1 := hM_8.2 _ _ hb_1
    refine S_x (X_buildI (ys := [keyAt kk1 kn1 x_6 0]) E S rfl T22 rfl rfl rfl ?_)
    clear E a S; rintro a w v_9 E S
    replace S := S.front1
    replace S := S.front1
    refine S_x (X_appendB (xs := (l0.take k).map (fun x => keyAt kk1 kn1 x 0)) (ys := [keyAt kk1 kn1 x_6 0]) E S rfl rfl rfl T22 (by first | omega | (simp; done) | (simp; omega) | (simp_all; omega)) ?_)
    clear E a S; rintro a w v_10 E S
    refine S_v E rfl (R_assign E rfl) rfl ?_
    clear E a; intro a E
    refine WL_nil ?_
    refine B_n ?_
    refine T_n ?_
    refine WP_region ?_
    refine S_v E rfl (R_addx (m := ((k + 1 : Nat) : Int)) E rfl rfl (by omega) (by omega)) rfl ?_
    clear E a; intro a E
    refine S_v E rfl (R_move E rfl) rfl ?_
    clear E a; intro a E
    refine WL_nil ?_
    refine T_n ?_
    replace S := S.re1 (l' := (l0.take (k + 1)).map (fun x => keyAt kk1 kn1 x 0)) (by first | (simp; done) | (rw [map_take_s (fun x => keyAt kk1 kn1 x 0) (by assumption)]; done))
    exact ⟨k + 1, ⟨M_8, _, (hM_4.trans hM_8), S, E.keep ⟨rfl, rfl, rfl, rfl, rfl, trivial⟩, by ((try clear S); (try clear E); first | assumption | omega | rfl | (simp; done) | (simp_all; done) | (simp [List.take_add_one, *]; done) | grind [List.take_add_one])⟩, by omega⟩
  · replace hc_5 := of_decide_eq_false hc_5
    refine WP_exit ?_
    refine T_x ?_
    refine T_x ?_
    refine B_x ?_
    refine T_n ?_
    refine WP_seq ?_
    refine WP_region ?_
    refine S_v E rfl (R_move E rfl) rfl ?_
    clear E a; intro a E
    refine S_v E rfl (R_assign E rfl) rfl ?_
    clear E a; intro a E
    refine WL_nil ?_
    refine T_n ?_
    refine WP_ret ?_
    have S0 := S; clear S
    obtain ⟨M_11, hM_11, hz_12, S⟩ := S0.freezeI (by (first | omega | (simp; omega) | (simp; done) | (simp_all; omega) | grind))
    clear S0
    replace h0 := h0.le hM_11
    replace hb_1 := hM_11.2 _ _ hb_1
    exact F_ret1 E Tryz.results77 rfl ⟨_, rfl, M_11, (hM_2.trans (hM_4.trans hM_11)), (by rw [show ((l0).map (fun x => keyAt kk1 kn1 x 0)) = ((l0.take k).map (fun x => keyAt kk1 kn1 x 0)) from by (rw [List.take_of_length_le (by omega)])]; exact hz_12), S⟩

set_option maxRecDepth 100000 in
set_option maxHeartbeats 4000000 in
theorem spec_IndexOf {M : Hp} {v0 : Value} {l0 : List Int} (h0 : RdI M v0 l0){x1 : Int} :
    Pu Tryz.prog (.func (.func 78) #[] #[]) M [v0, .int .i64 x1] (fun r M' => r = .int .i64 (fiI (eqx x1) l0)) := by
  refine Pu_enter Tryz.func78 rfl Tryz.ntmps78 rfl Tryz.call78 ?_
  intro a w M1 H hM1 S E
  replace h0 := h0.le hM1
  have b0 := h0.bound
  refine WP_seq ?_
  refine WP_region ?_
  refine S_v E rfl (R_assign E rfl) rfl ?_
  clear E a; intro a E
  refine WL_nil ?_
  refine T_n ?_
  refine WP_seq ?_
  refine WP_seq ?_
  refine WP_region ?_
  refine S_v E rfl (R_move E rfl) rfl ?_
  clear E a; intro a E
  refine S_v E rfl (R_lenV E rfl T22 h0.len) rfl ?_
  clear E a; intro a E
  refine S_v E rfl (R_move E rfl) rfl ?_
  clear E a; intro a E
  refine WL_nil ?_
  refine T_n ?_
  refine WP_block ?_
  refine WP_loop (γ := Nat) (fun (k : Nat) a w => ∃ (M_1 : Hp), Hp.le M1 M_1 ∧ St w M_1 (H) ∧ Env a 19 [] [(0, v0), (1, .int .i64 x1), (7, .int .i64 (((l0).length : Nat) : Int)), (8, .int .i64 ((k : Nat) : Int))] ∧ (k ≤ (l0).length) ∧ (∀ y ∈ l0.take k, eqx x1 y = false)) (fun k => ((l0).length) - k) 0 ⟨M1, Hp.le.refl _, S, E.keep ⟨rfl, rfl, rfl, rfl, trivial⟩, by ((try clear S); (try clear E); first | assumption | omega | rfl | (simp; done) | (simp_all; done) | (simp [List.take_add_one, *]; done) | grind [List.take_add_one]), (by simp)⟩ ?_
  try clear E
  try clear S
  try clear a
  try clear w
  rintro k a w ⟨M_1, hM_1, S, E, hL0_0, hL0_1⟩
  replace h0 := h0.le hM_1
  refine WP_seq ?_
  refine WP_region ?_
  refine S_v E rfl (R_lss E rfl rfl) rfl ?_
  clear E a; intro a E
  refine WL_nil ?_
  refine T_n ?_
  refine WP_seq ?_
  refine WP_cond E rfl (fun hc_2 => ?_) (fun hc_2 => ?_)
  · replace hc_2 := of_decide_eq_true hc_2
    refine WP_skip ?_
    refine T_n ?_
    refine WP_seq ?_
    refine WP_block ?_
    refine WP_seq ?_
    refine WP_region ?_
    refine S_v E rfl (R_move E rfl) rfl ?_
    clear E a; intro a E
    refine S_v E rfl (R_assign E rfl) rfl ?_
    clear E a; intro a E
    refine WL_nil ?_
    refine T_n ?_
    refine WP_seq ?_
    refine WP_region ?_
    refine S_v E rfl (R_move E rfl) rfl ?_
    clear E a; intro a E
    refine S_v E rfl (R_move E rfl) rfl ?_
    clear E a; intro a E
    obtain ⟨x_3, hx_3⟩ : ∃ x, (l0)[k]? = some x := ⟨_, List.getElem?_eq_getElem (by first | omega | (simp; done) | (simp; omega) | (simp_all; omega))⟩
    obtain ⟨p_4, hp_4, qp_4⟩ := h0.at hx_3
    refine S_v E rfl (R_idx E rfl rfl T22 hp_4 rfl) rfl ?_
    clear E a; intro a E
    refine S_v E rfl (R_loadM E rfl Tryz.isAgg3 S.imm qp_4) rfl ?_
    clear E a; intro a E
    refine S_v E rfl (R_move E rfl) rfl ?_
    clear E a; intro a E
    refine S_v E rfl (R_eql E rfl rfl) rfl ?_
    clear E a; intro a E
    refine WL_nil ?_
    refine T_n ?_
    refine WP_cond E rfl (fun hc_5 => ?_) (fun hc_5 => ?_)
    · replace hc_5 := of_decide_eq_true hc_5
      refine WP_seq ?_
      refine WP_region ?_
      refine S_v E rfl (R_move E rfl) rfl ?_
      clear E a; intro a E
      refine S_v E rfl (R_assign E rfl) rfl ?_
      clear E a; intro a E
      refine WL_nil ?_
      refine T_n ?_
      refine WP_ret ?_
      refine B_r ?_
      refine T_r ?_
      refine T_r ?_
      refine B_r ?_
      refine T_r ?_
      exact F_ret1 E Tryz.results78 rfl ⟨_, rfl, M_1, hM_1, (congrArg (Value.int .i64) (by (first | exact (fi_yes (f := eqx x1) hL0_1 (by assumption) (by first | exact eqx_yes (by assumption) | exact eqx_yes' (by assumption))).1 | exact ((fi_yes (f := eqx x1) hL0_1 (by assumption) (by first | exact eqx_yes (by assumption) | exact eqx_yes' (by assumption))).1).symm | exact (fi_no (f := eqx x1) hL0_1 (by omega)).1 | exact ((fi_no (f := eqx x1) hL0_1 (by omega)).1).symm))), S⟩
    · replace hc_5 := of_decide_eq_false hc_5
      refine WP_skip ?_
      refine B_n ?_
      refine T_n ?_
      refine WP_region ?_
      refine S_v E rfl (R_addx (m := ((k + 1 : Nat) : Int)) E rfl rfl (by omega) (by omega)) rfl ?_
      clear E a; intro a E
      refine S_v E rfl (R_move E rfl) rfl ?_
      clear E a; intro a E
      refine WL_nil ?_
      refine T_n ?_
      exact ⟨k + 1, ⟨M_1, hM_1, S, E.keep ⟨rfl, rfl, rfl, rfl, trivial⟩, by ((try clear S); (try clear E); first | assumption | omega | rfl | (simp; done) | (simp_all; done) | (simp [List.take_add_one, *]; done) | grind [List.take_add_one]), (by exact take_all (P := fun y => eqx x1 y = false) hL0_1 (by assumption) (by first | exact eqx_no (by assumption) | exact eqx_no' (by assumption)))⟩, by omega⟩
  · replace hc_2 := of_decide_eq_false hc_2
    refine WP_exit ?_
    refine T_x ?_
    refine T_x ?_
    refine B_x ?_
    refine T_n ?_
    refine WP_seq ?_
    refine WP_region ?_
    refine S_v E rfl (R_assign E rfl) rfl ?_
    clear E a; intro a E
    refine WL_nil ?_
    refine T_n ?_
    refine WP_ret ?_
    exact F_ret1 E Tryz.results78 rfl ⟨_, rfl, M_1, hM_1, (congrArg (Value.int .i64) (by (first | exact (fi_yes (f := eqx x1) hL0_1 (by assumption) (by first | exact eqx_yes (by assumption) | exact eqx_yes' (by assumption))).1 | exact ((fi_yes (f := eqx x1) hL0_1 (by assumption) (by first | exact eqx_yes (by assumption) | exact eqx_yes' (by assumption))).1).symm | exact (fi_no (f := eqx x1) hL0_1 (by omega)).1 | exact ((fi_no (f := eqx x1) hL0_1 (by omega)).1).symm))), S⟩

set_option maxRecDepth 100000 in
set_option maxHeartbeats 4000000 in
theorem spec_UniqBy {M : Hp} {v0 : Value} {l0 : List Int} (h0 : RdI M v0 l0){kk1 kn1 : Int} (gk1 : -9223372036854775808 ≤ kn1 ∧ kn1 ≤ 9223372036854775807) (hr0 : (∀ x ∈ l0, -9223372036854775808 ≤ x ∧ x ≤ 9223372036854775807)) (hb : l0.length ≤ 1000000000000) (hid : l0.map (fun x => keyAt kk1 kn1 x 0) = l0) :
    Pu Tryz.prog (.func (.func 45) #[] #[]) M [v0, .agg #[.int .i64 kk1, .int .i64 kn1]] (fun r M' => RdI M' r (keyL l0)) := by
  refine Pu_enter Tryz.func45 rfl Tryz.ntmps45 rfl Tryz.call45 ?_
  intro a w M1 H hM1 S E
  replace h0 := h0.le hM1
  have b0 := h0.bound
  have hkl := keyL_le' l0
  refine WP_seq ?_
  refine WP_region ?_
  refine S_x (X_box (cs := #[.int .i64 kk1, .int .i64 kn1]) E S rfl rfl rfl ?_)
  clear E a S; rintro a w b_1 E S
  obtain ⟨M_2, hM_2, hb_1, S⟩ := S.freezeB
  replace h0 := h0.le hM_2
  refine S_v E rfl (R_assign E rfl) rfl ?_
  clear E a; intro a E
  refine WL_nil ?_
  refine T_n ?_
  refine WP_seq ?_
  refine WP_region ?_
  refine S_v E rfl (R_assign E rfl) rfl ?_
  clear E a; intro a E
  refine WL_nil ?_
  refine T_n ?_
  refine WP_seq ?_
  refine WP_region ?_
  refine S_v E rfl (R_move E rfl) rfl ?_
  clear E a; intro a E
  refine S_v E rfl (R_loadGM E rfl (Tryz.isAgg53 _) (Tryz.sizeOf53 _) S.imm hb_1) rfl ?_
  clear E a; intro a E
  refine S_x (X_pu E S rfl rfl rfl (spec_keys h0 (by omega) (by first | assumption | exact (fun x hx => by rcases List.mem_append.1 hx with h | h; exact hr0 x h; exact hr1 x h)) (by (first | omega | (simp; omega) | (simp; done) | (simp_all; omega) | grind))) (Hp.le.refl _) ?_)
  clear E a S; rintro a v_4 w M_3 hM_3 hv_4 S E
  replace h0 := h0.le hM_3
  replace hb_1 := hM_3.2 _ _ hb_1
  refine S_v E rfl (R_assign E rfl) rfl ?_
  clear E a; intro a E
  refine WL_nil ?_
  refine T_n ?_
  refine WP_seq ?_
  refine WP_seq ?_
  refine WP_region ?_
  refine S_v E rfl (R_move E rfl) rfl ?_
  clear E a; intro a E
  refine S_v E rfl (R_lenV E rfl T22 h0.len) rfl ?_
  clear E a; intro a E
  refine S_v E rfl (R_move E rfl) rfl ?_
  clear E a; intro a E
  refine WL_nil ?_
  refine T_n ?_
  refine WP_block ?_
  replace S := (S.ownNil (e := 3) (sz := 1)).made0
  replace S := S.re1 (l' := keyL (l0.take 0)) (by first | (simp [keyL]; done) | exact uqb_y2 hid hx_8 hx_10 (by assumption) | exact uqb_n2 hid hx_8 hx_10 (by assumption))
  refine WP_loop (γ := Nat) (fun (k : Nat) a w => ∃ (M_6 : Hp) (u5 : Value), Hp.le M_3 M_6 ∧ St w M_6 (OwnI 3 u5 (keyL (l0.take k)) :: H) ∧ Env a 33 [] [(5, u5), (6, v_4), (12, v0), (13, .int .i64 (((l0).length : Nat) : Int)), (14, .int .i64 ((k : Nat) : Int))] ∧ (k ≤ (l0).length)) (fun k => ((l0).length) - k) 0 ⟨M_3, _, Hp.le.refl _, S, E.keep ⟨rfl, rfl, rfl, rfl, rfl, trivial⟩, by ((try clear S); (try clear E); first | assumption | omega | rfl | (simp; done) | (simp_all; done) | (simp [List.take_add_one, *]; done) | grind [List.take_add_one])⟩ ?_
  try clear E
  try clear S
  try clear a
  try clear w
  rintro k a w ⟨M_6, u5, hM_6, S, E, hL0_0⟩
  replace h0 := h0.le hM_6
  replace hb_1 := hM_6.2 _ _ hb_1
  replace hv_4 := hv_4.le hM_6
  have hkt := keyL_le' (l0.take k); rw [List.length_take] at hkt
  have hidl := congrArg List.length hid
  refine WP_seq ?_
  refine WP_region ?_
  refine S_v E rfl (R_lss E rfl rfl) rfl ?_
  clear E a; intro a E
  refine WL_nil ?_
  refine T_n ?_
  refine WP_seq ?_
  refine WP_cond E rfl (fun hc_7 => ?_) (fun hc_7 => ?_)
  · replace hc_7 := of_decide_eq_true hc_7
    refine WP_skip ?_
    refine T_n ?_
    refine WP_seq ?_
    refine WP_block ?_
    refine WP_seq ?_
    refine WP_region ?_
    refine S_v E rfl (R_move E rfl) rfl ?_
    clear E a; intro a E
    obtain ⟨x_8, hx_8⟩ : ∃ x, (l0)[k]? = some x := ⟨_, List.getElem?_eq_getElem (by first | omega | (simp; done) | (simp; omega) | (simp_all; omega))⟩
    obtain ⟨p_9, hp_9, qp_9⟩ := h0.at hx_8
    refine S_v E rfl (R_idx E rfl rfl T22 hp_9 rfl) rfl ?_
    clear E a; intro a E
    refine S_v E rfl (R_loadM E rfl Tryz.isAgg3 S.imm qp_9) rfl ?_
    clear E a; intro a E
    refine S_v E rfl (R_assign E rfl) rfl ?_
    clear E a; intro a E
    refine S_v E rfl (R_assign E rfl) rfl ?_
    clear E a; intro a E
    refine WL_nil ?_
    refine T_n ?_
    refine WP_seq ?_
    refine WP_region ?_
    refine S_v E rfl (R_move E rfl) rfl ?_
    clear E a; intro a E
    refine S_v E rfl (R_move E rfl) rfl ?_
    clear E a; intro a E
    refine S_v E rfl (R_move E rfl) rfl ?_
    clear E a; intro a E
    obtain ⟨x_10, hx_10⟩ : ∃ x, ((l0).map (fun x => keyAt kk1 kn1 x 0))[k]? = some x := ⟨_, List.getElem?_eq_getElem (by first | omega | (simp; done) | (simp; omega) | (simp_all; omega))⟩
    obtain ⟨p_11, hp_11, qp_11⟩ := hv_4.at hx_10
    refine S_v E rfl (R_idx E rfl rfl T22 hp_11 rfl) rfl ?_
    clear E a; intro a E
    refine S_v E rfl (R_loadM E rfl Tryz.isAgg3 S.imm qp_11) rfl ?_
    clear E a; intro a E
    refine S_x (X_pu E S rfl rfl rfl (spec_IndexOf hv_4) (Hp.le.refl _) ?_)
    clear E a S; rintro a _ w M_12 hM_12 rfl S E
    replace h0 := h0.le hM_12
    replace hb_1 := hM_12.2 _ _ hb_1
    replace hv_4 := hv_4.le hM_12
    refine S_v E rfl (R_move E rfl) rfl ?_
    clear E a; intro a E
    refine S_v E rfl (R_eql E rfl rfl) rfl ?_
    clear E a; intro a E
    refine WL_nil ?_
    refine T_n ?_
    refine WP_cond E rfl (fun hc_13 => ?_) (fun hc_13 => ?_)
    · replace hc_13 := of_decide_eq_true hc_13
      refine WP_region ?_
      refine S_v E rfl (R_move E rfl) rfl ?_
      clear E a; intro a E
      refine S_v E rfl (R_move E rfl) rfl ?_
      clear E a; intro a E
      refine S_x (X_buildI (ys := [x_8]) E S rfl T22 rfl rfl rfl ?_)
      clear E a S; rintro a w v_14 E S
      replace S := S.front1
      replace S := S.front1
      refine S_x (X_appendB (xs := keyL (l0.take k)) (ys := [x_8]) E S rfl rfl rfl T22 (by (simp only [List.length_cons, List.length_nil] at *; omega)) ?_)
      clear E a S; rintro a w v_15 E S
      refine S_v E rfl (R_assign E rfl) rfl ?_
      clear E a; intro a E
      refine WL_nil ?_
      refine B_n ?_
      refine T_n ?_
      refine WP_region ?_
      refine S_v E rfl (R_addx (m := ((k + 1 : Nat) : Int)) E rfl rfl (by omega) (by omega)) rfl ?_
      clear E a; intro a E
      refine S_v E rfl (R_move E rfl) rfl ?_
      clear E a; intro a E
      refine WL_nil ?_
      refine T_n ?_
      replace S := S.re1 (l' := keyL (l0.take (k + 1))) (by first | (simp [keyL]; done) | exact uqb_y2 hid hx_8 hx_10 (by assumption) | exact uqb_n2 hid hx_8 hx_10 (by assumption))
      exact ⟨k + 1, ⟨M_12, _, (hM_6.trans hM_12), S, E.keep ⟨rfl, rfl, rfl, rfl, rfl, trivial⟩, by ((try clear S); (try clear E); first | assumption | omega | rfl | (simp; done) | (simp_all; done) | (simp [List.take_add_one, *]; done) | grind [List.take_add_one])⟩, by omega⟩
    · replace hc_13 := of_decide_eq_false hc_13
      refine WP_skip ?_
      refine B_n ?_
      refine T_n ?_
      refine WP_region ?_
      refine S_v E rfl (R_addx (m := ((k + 1 : Nat) : Int)) E rfl rfl (by omega) (by omega)) rfl ?_
      clear E a; intro a E
      refine S_v E rfl (R_move E rfl) rfl ?_
      clear E a; intro a E
      refine WL_nil ?_
      refine T_n ?_
      replace S := S.re1 (l' := keyL (l0.take (k + 1))) (by first | (simp [keyL]; done) | exact uqb_y2 hid hx_8 hx_10 (by assumption) | exact uqb_n2 hid hx_8 hx_10 (by assumption))
      exact ⟨k + 1, ⟨M_12, _, (hM_6.trans hM_12), S, E.keep ⟨rfl, rfl, rfl, rfl, rfl, trivial⟩, by ((try clear S); (try clear E); first | assumption | omega | rfl | (simp; done) | (simp_all; done) | (simp [List.take_add_one, *]; done) | grind [List.take_add_one])⟩, by omega⟩
  · replace hc_7 := of_decide_eq_false hc_7
    refine WP_exit ?_
    refine T_x ?_
    refine T_x ?_
    refine B_x ?_
    refine T_n ?_
    refine WP_seq ?_
    refine WP_region ?_
    refine S_v E rfl (R_move E rfl) rfl ?_
    clear E a; intro a E
    refine S_v E rfl (R_assign E rfl) rfl ?_
    clear E a; intro a E
    refine WL_nil ?_
    refine T_n ?_
    refine WP_ret ?_
    have S0 := S; clear S
    obtain ⟨M_16, hM_16, hz_17, S⟩ := S0.freezeI (by (have hkt := keyL_le' (l0.take k); rw [List.length_take] at hkt; omega))
    clear S0
    replace h0 := h0.le hM_16
    replace hb_1 := hM_16.2 _ _ hb_1
    replace hv_4 := hv_4.le hM_16
    exact F_ret1 E Tryz.results45 rfl ⟨_, rfl, M_16, (hM_2.trans (hM_3.trans (hM_6.trans hM_16))), (by rw [show (keyL l0) = (keyL (l0.take k)) from by (rw [List.take_of_length_le (by omega)])]; exact hz_17), S⟩

set_option maxRecDepth 100000 in
set_option maxHeartbeats 4000000 in
theorem spec_Uniq {M : Hp} {v0 : Value} {l0 : List Int} (h0 : RdI M v0 l0) (hr0 : (∀ x ∈ l0, -9223372036854775808 ≤ x ∧ x ≤ 9223372036854775807)) (hb : l0.length ≤ 1000000000000) :
    Pu Tryz.prog (.func (.func 11) #[] #[]) M [v0] (fun r M' => RdI M' r (keyL l0)) := by
  refine Pu_enter Tryz.func11 rfl Tryz.ntmps11 rfl Tryz.call11 ?_
  intro a w M1 H hM1 S E
  replace h0 := h0.le hM1
  have b0 := h0.bound
  refine WP_seq ?_
  refine WP_region ?_
  refine S_v E rfl (R_assign E rfl) rfl ?_
  clear E a; intro a E
  refine WL_nil ?_
  refine T_n ?_
  refine WP_seq ?_
  refine WP_region ?_
  refine S_v E rfl (R_move E rfl) rfl ?_
  clear E a; intro a E
  refine S_x (X_pu E S rfl rfl rfl (spec_same ) (Hp.le.refl _) ?_)
  clear E a S; rintro a _ w M_1 hM_1 rfl S E
  replace h0 := h0.le hM_1
  refine S_x (X_pu E S rfl rfl rfl (spec_UniqBy h0 (by omega) (by first | assumption | exact (fun x hx => by rcases List.mem_append.1 hx with h | h; exact hr0 x h; exact hr1 x h)) (by (first | omega | (simp; omega) | (simp; done) | (simp_all; omega) | grind)) (by first | assumption | exact map_key5 _ _)) (Hp.le.refl _) ?_)
  clear E a S; rintro a v_3 w M_2 hM_2 hv_3 S E
  replace h0 := h0.le hM_2
  refine S_v E rfl (R_assign E rfl) rfl ?_
  clear E a; intro a E
  refine WL_nil ?_
  refine T_n ?_
  refine WP_ret ?_
  exact F_ret1 E Tryz.results11 rfl ⟨_, rfl, M_2, (hM_1.trans hM_2), hv_3, S⟩

set_option maxRecDepth 100000 in
set_option maxHeartbeats 4000000 in
theorem spec_UniqKeys {M : Hp} {v0 : Value} {l0 : List (List (Int × Int))} (h0 : RdS 1 (RSl 2 RP2) M v0 l0) (hb : l0.flatten.length ≤ 1000000000000) (hbl : l0.length ≤ 1000000000000) (hrr : ∀ l ∈ l0, ∀ x ∈ l, (-9223372036854775808 ≤ x.1 ∧ x.1 ≤ 9223372036854775807) ∧ (-9223372036854775808 ≤ x.2 ∧ x.2 ≤ 9223372036854775807)) :
    Pu Tryz.prog (.func (.func 42) #[] #[]) M [v0] (fun r M' => RdI M' r (setI (keysM l0))) := by
  refine Pu_enter Tryz.func42 rfl Tryz.ntmps42 rfl Tryz.call42 ?_
  intro a w M1 H hM1 S E
  replace h0 := h0.le (RSl_mono RP2_mono) hM1
  have b0 := h0.bound
  refine WP_seq ?_
  refine WP_region ?_
  refine S_v E rfl (R_assign E rfl) rfl ?_
  clear E a; intro a E
  refine WL_nil ?_
  refine T_n ?_
  refine WP_seq ?_
  refine WP_region ?_
  refine S_v E rfl (R_move E rfl) rfl ?_
  clear E a; intro a E
  refine S_x (X_pu E S rfl rfl rfl (spec_Keys h0 (by first | omega | (simp; done) | (simp; omega)) (by first | omega | (simp; done) | (simp; omega))) (Hp.le.refl _) ?_)
  clear E a S; rintro a v_2 w M_1 hM_1 hv_2 S E
  replace h0 := h0.le (RSl_mono RP2_mono) hM_1
  refine S_x (X_pu E S rfl rfl rfl (spec_Uniq hv_2 (by first | assumption | exact ks_rng hrr | exact vs_rng hrr) (by first | omega | exact Nat.le_trans (ks_len _) (by omega) | exact Nat.le_trans (vs_len _) (by omega))) (Hp.le.refl _) ?_)
  clear E a S; rintro a v_4 w M_3 hM_3 hv_4 S E
  replace h0 := h0.le (RSl_mono RP2_mono) hM_3
  replace hv_2 := hv_2.le hM_3
  refine S_v E rfl (R_assign E rfl) rfl ?_
  clear E a; intro a E
  refine WL_nil ?_
  refine T_n ?_
  refine WP_ret ?_
  exact F_ret1 E Tryz.results42 rfl ⟨_, rfl, M_3, (hM_1.trans hM_3), (by rw [show (setI (keysM l0)) = (keyL (srtM (keysM l0))) from by (first | exact (keyL_srt _).symm | exact keyL_srt _)]; exact hv_4), S⟩

set_option maxRecDepth 100000 in
set_option maxHeartbeats 4000000 in
theorem spec_UniqValues {M : Hp} {v0 : Value} {l0 : List (List (Int × Int))} (h0 : RdS 1 (RSl 2 RP2) M v0 l0) (hb : l0.flatten.length ≤ 1000000000000) (hbl : l0.length ≤ 1000000000000) (hrr : ∀ l ∈ l0, ∀ x ∈ l, (-9223372036854775808 ≤ x.1 ∧ x.1 ≤ 9223372036854775807) ∧ (-9223372036854775808 ≤ x.2 ∧ x.2 ≤ 9223372036854775807)) :
    Pu Tryz.prog (.func (.func 43) #[] #[]) M [v0] (fun r M' => RdI M' r (setI (valsM l0))) := by
  refine Pu_enter Tryz.func43 rfl Tryz.ntmps43 rfl Tryz.call43 ?_
  intro a w M1 H hM1 S E
  replace h0 := h0.le (RSl_mono RP2_mono) hM1
  have b0 := h0.bound
  refine WP_seq ?_
  refine WP_region ?_
  refine S_v E rfl (R_assign E rfl) rfl ?_
  clear E a; intro a E
  refine WL_nil ?_
  refine T_n ?_
  refine WP_seq ?_
  refine WP_region ?_
  refine S_v E rfl (R_move E rfl) rfl ?_
  clear E a; intro a E
  refine S_x (X_pu E S rfl rfl rfl (spec_MapItems h0 (by first | omega | (simp; done) | (simp; omega)) (by first | omega | (simp; done) | (simp; omega))) (Hp.le.refl _) ?_)
  clear E a S; rintro a v_2 w M_1 hM_1 hv_2 S E
  replace h0 := h0.le (RSl_mono RP2_mono) hM_1
  refine S_x (X_pu E S rfl rfl rfl (spec_Uniq hv_2 (by first | assumption | exact ks_rng hrr | exact vs_rng hrr) (by first | omega | exact Nat.le_trans (ks_len _) (by omega) | exact Nat.le_trans (vs_len _) (by omega))) (Hp.le.refl _) ?_)
  clear E a S; rintro a v_4 w M_3 hM_3 hv_4 S E
  replace h0 := h0.le (RSl_mono RP2_mono) hM_3
  replace hv_2 := hv_2.le hM_3
  refine S_v E rfl (R_assign E rfl) rfl ?_
  clear E a; intro a E
  refine WL_nil ?_
  refine T_n ?_
  refine WP_ret ?_
  exact F_ret1 E Tryz.results43 rfl ⟨_, rfl, M_3, (hM_1.trans hM_3), (by rw [show (setI (valsM l0)) = (keyL (srtM (valsM l0))) from by (first | exact (keyL_srt _).symm | exact keyL_srt _)]; exact hv_4), S⟩

set_option maxRecDepth 100000 in
set_option maxHeartbeats 4000000 in
theorem laws_FnKeysValues {M : Hp} {v0 : Value} {l0 : List (Int × Int)} (h0 : RdS 2 RP2 M v0 l0) {v1 : Value} {l1 : List (Int × Int)} (h1 : RdS 2 RP2 M v1 l1) {pk2 pn2 : Int} {w2 : Value} {pl2 : List Int} (hw2 : RdI M w2 pl2) (gn2 : -9223372036854775808 ≤ pn2 ∧ pn2 ≤ 9223372036854775807) (hr0 : ∀ x ∈ l0, (-9223372036854775808 ≤ x.1 ∧ x.1 ≤ 9223372036854775807) ∧ (-9223372036854775808 ≤ x.2 ∧ x.2 ≤ 9223372036854775807)) (hr1 : ∀ x ∈ l1, (-9223372036854775808 ≤ x.1 ∧ x.1 ≤ 9223372036854775807) ∧ (-9223372036854775808 ≤ x.2 ∧ x.2 ≤ 9223372036854775807)) :
    PuC Tryz.prog 4 M [v0, v1, .agg #[.int .i64 pk2, .int .i64 pn2, w2]] (fun r M' => r = .bool true) := by
  refine PuC_enter Tryz.func4 rfl Tryz.ntmps4 rfl ?_
  intro a w M1 H hM1 S E
  replace h0 := h0.le RP2_mono hM1
  replace h1 := h1.le RP2_mono hM1
  replace hw2 := hw2.le hM1
  have b0 := h0.bound
  have b1 := h1.bound
  refine WP_seq ?_
  refine WP_region ?_
  refine S_x (X_box (cs := #[.int .i64 pk2, .int .i64 pn2, w2]) E S rfl rfl rfl ?_)
  clear E a S; rintro a w b_1 E S
  obtain ⟨M_2, hM_2, hb_1, S⟩ := S.freezeB
  replace h0 := h0.le RP2_mono hM_2
  replace h1 := h1.le RP2_mono hM_2
  replace hw2 := hw2.le hM_2
  refine S_v E rfl (R_assign E rfl) rfl ?_
  clear E a; intro a E
  refine WL_nil ?_
  refine T_n ?_
  refine WP_seq ?_
  refine WP_seq ?_
  refine WP_region ?_
  refine S_v E rfl (R_move E rfl) rfl ?_
  clear E a; intro a E
  refine S_v E rfl (R_lenV E rfl T25 h0.len) rfl ?_
  clear E a; intro a E
  refine S_v E rfl (R_gtr E rfl rfl) rfl ?_
  clear E a; intro a E
  refine S_v E rfl (R_move E rfl) rfl ?_
  clear E a; intro a E
  refine split_bool (decide (2147483647 < (((l0).length : Nat) : Int))) (fun hc_3 => ?_) (fun hc_3 => ?_)
  · replace E := E.val (t := 18) rfl hc_3
    replace E := E.val (t := 19) rfl hc_3
    replace hc_3 := of_decide_eq_true hc_3
    refine WL_guard_no E rfl rfl rfl rfl fun a E => ?_
    refine WL_guard_no E rfl rfl rfl rfl fun a E => ?_
    refine WL_guard_no E rfl rfl rfl rfl fun a E => ?_
    refine S_v E rfl (R_pickT E rfl rfl) rfl ?_
    clear E a; intro a E
    refine S_v E rfl (R_move E rfl) rfl ?_
    clear E a; intro a E
    refine WL_guard_no E rfl rfl rfl rfl fun a E => ?_
    refine WL_guard_no E rfl rfl rfl rfl fun a E => ?_
    refine WL_guard_no E rfl rfl rfl rfl fun a E => ?_
    refine S_v E rfl (R_pickT E rfl rfl) rfl ?_
    clear E a; intro a E
    refine WL_nil ?_
    refine T_n ?_
    refine WP_condT E rfl rfl ?_
    refine WP_seq ?_
    refine WP_region ?_
    refine S_v E rfl (R_assign E rfl) rfl ?_
    clear E a; intro a E
    refine WL_nil ?_
    refine T_n ?_
    refine WP_ret ?_
    refine T_r ?_
    exact F_ret1 E Tryz.results4 rfl ⟨_, rfl, M_2, hM_2, rfl, S⟩
  · replace E := E.val (t := 18) rfl hc_3
    replace E := E.val (t := 19) rfl hc_3
    replace hc_3 := of_decide_eq_false hc_3
    refine WL_guard_yes E rfl rfl ?_
    refine S_v E rfl (R_move E rfl) rfl ?_
    clear E a; intro a E
    refine WL_guard_yes E rfl rfl ?_
    refine S_v E rfl (R_lenV E rfl T25 h1.len) rfl ?_
    clear E a; intro a E
    refine WL_guard_yes E rfl rfl ?_
    refine S_v E rfl (R_gtr E rfl rfl) rfl ?_
    clear E a; intro a E
    refine S_v E rfl (R_pickF E rfl rfl) rfl ?_
    clear E a; intro a E
    refine S_v E rfl (R_move E rfl) rfl ?_
    clear E a; intro a E
    refine split_bool (decide (2147483647 < (((l1).length : Nat) : Int))) (fun hc_4 => ?_) (fun hc_4 => ?_)
    · replace E := E.val (t := 22) rfl hc_4
      replace E := E.val (t := 23) rfl hc_4
      replace E := E.val (t := 24) rfl hc_4
      replace hc_4 := of_decide_eq_true hc_4
      refine WL_guard_no E rfl rfl rfl rfl fun a E => ?_
      refine WL_guard_no E rfl rfl rfl rfl fun a E => ?_
      refine WL_guard_no E rfl rfl rfl rfl fun a E => ?_
      refine S_v E rfl (R_pickT E rfl rfl) rfl ?_
      clear E a; intro a E
      refine WL_nil ?_
      refine T_n ?_
      refine WP_condT E rfl rfl ?_
      refine WP_seq ?_
      refine WP_region ?_
      refine S_v E rfl (R_assign E rfl) rfl ?_
      clear E a; intro a E
      refine WL_nil ?_
      refine T_n ?_
      refine WP_ret ?_
      refine T_r ?_
      exact F_ret1 E Tryz.results4 rfl ⟨_, rfl, M_2, hM_2, rfl, S⟩
    · replace E := E.val (t := 22) rfl hc_4
      replace E := E.val (t := 23) rfl hc_4
      replace E := E.val (t := 24) rfl hc_4
      replace hc_4 := of_decide_eq_false hc_4
      refine WL_guard_yes E rfl rfl ?_
      refine S_v E rfl (R_loadGM E rfl (Tryz.isAgg38 _) (Tryz.sizeOf38 _) S.imm hb_1) rfl ?_
      clear E a; intro a E
      refine WL_guard_yes E rfl rfl ?_
      refine S_x (X_pu E S rfl rfl rfl (laws_zzFits1 hw2 (by omega)) (Hp.le.refl _) ?_)
      clear E a S; rintro a _ w M_5 hM_5 rfl S E
      replace h0 := h0.le RP2_mono hM_5
      replace h1 := h1.le RP2_mono hM_5
      replace hw2 := hw2.le hM_5
      replace hb_1 := hM_5.2 _ _ hb_1
      refine WL_guard_yes E rfl rfl ?_
      refine S_v E rfl (R_not E rfl) rfl ?_
      clear E a; intro a E
      refine S_v E rfl (R_pickF E rfl rfl) rfl ?_
      clear E a; intro a E
      refine WL_nil ?_
      refine T_n ?_
      refine WP_cond E rfl (fun hc_6 => ?_) (fun hc_6 => ?_)
      · refine WP_seq ?_
        refine WP_region ?_
        refine S_v E rfl (R_assign E rfl) rfl ?_
        clear E a; intro a E
        refine WL_nil ?_
        refine T_n ?_
        refine WP_ret ?_
        refine T_r ?_
        exact F_ret1 E Tryz.results4 rfl ⟨_, rfl, M_5, (hM_2.trans hM_5), rfl, S⟩
      · refine WP_skip ?_
        refine T_n ?_
        refine WP_seq ?_
        refine WP_seq ?_
        refine WP_region ?_
        refine S_v E rfl (R_build (u := .agg #[.int .i64 1, .int .i64 0]) (vs := [.int .i64 1]) E rfl (fun w => FB29_0_i 1 w)) rfl ?_
        clear E a; intro a E
        refine S_x (X_buildA1 (R := RP2) (cs := [.int .i64 1, .int .i64 0]) (x0 := (1, 0)) RP2_mono E S rfl T25 rfl rfl rfl rfl ?_)
        clear E a S; rintro a v_7 w M_8 hM_8 hv_7 S E
        replace h0 := h0.le RP2_mono hM_8
        replace h1 := h1.le RP2_mono hM_8
        replace hw2 := hw2.le hM_8
        replace hb_1 := hM_8.2 _ _ hb_1
        refine S_x (X_buildM (R := (RSl 2 RP2)) (vs := [v_7]) (xs := [[(1, 0)]]) (RSl_mono RP2_mono) E S rfl T41 rfl rfl rfl (by intro u hu; simp only [List.mem_cons, List.not_mem_nil, or_false] at hu; rcases hu with rfl <;> first | exact RdS.one' hv_7) rfl (rowsC (R := (RSl 2 RP2)) ⟨_, rfl, hv_7⟩ rowsN) ?_)
        clear E a S; rintro a v_9 w M_10 hM_10 hv_9 S E
        replace h0 := h0.le RP2_mono hM_10
        replace h1 := h1.le RP2_mono hM_10
        replace hw2 := hw2.le hM_10
        replace hb_1 := hM_10.2 _ _ hb_1
        replace hv_7 := hv_7.le RP2_mono hM_10
        refine S_x (X_pu E S rfl rfl rfl (impl_Keys hv_9 (by first | omega | (simp; done) | (simp; omega)) (by first | omega | (simp; done) | (simp; omega))) (Hp.le.refl _) ?_)
        clear E a S; rintro a v_12 w M_11 hM_11 hv_12 S E
        replace h0 := h0.le RP2_mono hM_11
        replace h1 := h1.le RP2_mono hM_11
        replace hw2 := hw2.le hM_11
        replace hb_1 := hM_11.2 _ _ hb_1
        replace hv_7 := hv_7.le RP2_mono hM_11
        replace hv_9 := hv_9.le (RSl_mono RP2_mono) hM_11
        refine S_v E rfl (R_lenV E rfl T22 hv_12.len) rfl ?_
        clear E a; intro a E
        refine S_v E rfl (R_neq E rfl rfl) rfl ?_
        clear E a; intro a E
        refine WL_nil ?_
        refine T_n ?_
        have hc_13 : (decide ((((srtM (keysM ([[(1, 0)]]))).length : Nat) : Int) ≠ 1)) = false := by (clear S E; first | (simp; done) | decide | (simp only [kv_one]; decide) | (simp only [kv_len]; simp; done) | (simp only [kv_lens]; simp; done) | (simp only [set_srt, keyL_srt]; simp; done) | (first | refine dec_t ?_ | refine dec_f ?_ | skip); first | rfl | exact (set_srt _).symm | (rw [List.take_of_length_le (by omega)]; first | exact kv_fk _ _ | exact kv_fv _ _))
        refine WP_condF E rfl hc_13 ?_
        refine WP_skip ?_
        refine T_n ?_
        refine WP_seq ?_
        refine WP_seq ?_
        refine WP_region ?_
        refine S_v E rfl (R_move E rfl) rfl ?_
        clear E a; intro a E
        refine S_v E rfl (R_move E rfl) rfl ?_
        clear E a; intro a E
        refine S_x (X_buildM (R := (RSl 2 RP2)) (vs := [v0, v1]) (xs := [l0, l1]) (RSl_mono RP2_mono) E S rfl T41 rfl rfl rfl (by intro u hu; simp only [List.mem_cons, List.not_mem_nil, or_false] at hu; rcases hu with rfl | rfl <;> first | exact RdS.one' h0 | exact RdS.one' h1) rfl (rowsC (R := (RSl 2 RP2)) ⟨_, rfl, h0⟩ (rowsC (R := (RSl 2 RP2)) ⟨_, rfl, h1⟩ rowsN)) ?_)
        clear E a S; rintro a v_14 w M_15 hM_15 hv_14 S E
        replace h0 := h0.le RP2_mono hM_15
        replace h1 := h1.le RP2_mono hM_15
        replace hw2 := hw2.le hM_15
        replace hb_1 := hM_15.2 _ _ hb_1
        replace hv_7 := hv_7.le RP2_mono hM_15
        replace hv_9 := hv_9.le (RSl_mono RP2_mono) hM_15
        replace hv_12 := hv_12.le hM_15
        refine S_x (X_pu E S rfl rfl rfl (laws_brief hv_14) (Hp.le.refl _) ?_)
        clear E a S; rintro a _ w M_16 hM_16 rfl S E
        replace h0 := h0.le RP2_mono hM_16
        replace h1 := h1.le RP2_mono hM_16
        replace hw2 := hw2.le hM_16
        replace hb_1 := hM_16.2 _ _ hb_1
        replace hv_7 := hv_7.le RP2_mono hM_16
        replace hv_9 := hv_9.le (RSl_mono RP2_mono) hM_16
        replace hv_12 := hv_12.le hM_16
        replace hv_14 := hv_14.le (RSl_mono RP2_mono) hM_16
        refine S_v E rfl (R_not E rfl) rfl ?_
        clear E a; intro a E
        refine S_v E rfl (R_move E rfl) rfl ?_
        clear E a; intro a E
        refine split_bool (!(decide ((∀ x ∈ [l0, l1], x.length ≤ 200) ∧ ([l0, l1]).length ≤ 20))) (fun hc_17 => ?_) (fun hc_17 => ?_)
        · replace E := E.val (t := 39) rfl hc_17
          replace E := E.val (t := 40) rfl hc_17
          refine WL_guard_no E rfl rfl rfl rfl fun a E => ?_
          refine WL_guard_no E rfl rfl rfl rfl fun a E => ?_
          refine WL_guard_no E rfl rfl rfl rfl fun a E => ?_
          refine S_v E rfl (R_pickT E rfl rfl) rfl ?_
          clear E a; intro a E
          refine WL_nil ?_
          refine T_n ?_
          refine WP_condT E rfl rfl ?_
          refine WP_seq ?_
          refine WP_region ?_
          refine S_v E rfl (R_assign E rfl) rfl ?_
          clear E a; intro a E
          refine WL_nil ?_
          refine T_n ?_
          refine WP_ret ?_
          refine T_r ?_
          exact F_ret1 E Tryz.results4 rfl ⟨_, rfl, M_16, (hM_2.trans (hM_5.trans (hM_8.trans (hM_10.trans (hM_11.trans (hM_15.trans hM_16)))))), rfl, S⟩
        · replace E := E.val (t := 39) rfl hc_17
          replace E := E.val (t := 40) rfl hc_17
          refine WL_guard_yes E rfl rfl ?_
          refine S_v E rfl (R_loadGM E rfl (Tryz.isAgg38 _) (Tryz.sizeOf38 _) S.imm hb_1) rfl ?_
          clear E a; intro a E
          refine WL_guard_yes E rfl rfl ?_
          refine S_x (X_pu E S rfl rfl rfl (laws_fair hw2 (by omega)) (Hp.le.refl _) ?_)
          clear E a S; rintro a _ w M_18 hM_18 rfl S E
          replace h0 := h0.le RP2_mono hM_18
          replace h1 := h1.le RP2_mono hM_18
          replace hw2 := hw2.le hM_18
          replace hb_1 := hM_18.2 _ _ hb_1
          replace hv_7 := hv_7.le RP2_mono hM_18
          replace hv_9 := hv_9.le (RSl_mono RP2_mono) hM_18
          replace hv_12 := hv_12.le hM_18
          replace hv_14 := hv_14.le (RSl_mono RP2_mono) hM_18
          refine WL_guard_yes E rfl rfl ?_
          refine S_v E rfl (R_not E rfl) rfl ?_
          clear E a; intro a E
          refine S_v E rfl (R_pickF E rfl rfl) rfl ?_
          clear E a; intro a E
          refine WL_nil ?_
          refine T_n ?_
          refine WP_cond E rfl (fun hc_19 => ?_) (fun hc_19 => ?_)
          · refine WP_seq ?_
            refine WP_region ?_
            refine S_v E rfl (R_assign E rfl) rfl ?_
            clear E a; intro a E
            refine WL_nil ?_
            refine T_n ?_
            refine WP_ret ?_
            refine T_r ?_
            exact F_ret1 E Tryz.results4 rfl ⟨_, rfl, M_18, (hM_2.trans (hM_5.trans (hM_8.trans (hM_10.trans (hM_11.trans (hM_15.trans (hM_16.trans hM_18))))))), rfl, S⟩
          · have hbr : l0.length ≤ 200 ∧ l1.length ≤ 200 := by simp_all
            have hkp : -1099511627776 < pn2 ∧ pn2 < 1099511627776 := (by simp_all)
            have hk1 := ks_len [l0, l1]
            have hv1 := vs_len [l0, l1]
            simp only [List.flatten_cons, List.flatten_nil, List.append_nil, List.length_append] at hk1 hv1
            have hel0 := entE_len l0
            have hel1 := entE_len l1
            have hpb := entE_len ((mkE l0).filter (fun e : Int × Int => predAt pk2 pn2 pl2 e.1 e.2))
            have hpb2 := flt_len id (fun e : Int × Int => predAt pk2 pn2 pl2 e.1 e.2) l0
            rw [List.length_map] at hpb2
            refine WP_skip ?_
            refine T_n ?_
            refine WP_seq ?_
            refine WP_region ?_
            refine S_v E rfl (R_move E rfl) rfl ?_
            clear E a; intro a E
            refine S_v E rfl (R_move E rfl) rfl ?_
            clear E a; intro a E
            refine S_x (X_buildM (R := (RSl 2 RP2)) (vs := [v0, v1]) (xs := [l0, l1]) (RSl_mono RP2_mono) E S rfl T41 rfl rfl rfl (by intro u hu; simp only [List.mem_cons, List.not_mem_nil, or_false] at hu; rcases hu with rfl | rfl <;> first | exact RdS.one' h0 | exact RdS.one' h1) rfl (rowsC (R := (RSl 2 RP2)) ⟨_, rfl, h0⟩ (rowsC (R := (RSl 2 RP2)) ⟨_, rfl, h1⟩ rowsN)) ?_)
            clear E a S; rintro a v_20 w M_21 hM_21 hv_20 S E
            replace h0 := h0.le RP2_mono hM_21
            replace h1 := h1.le RP2_mono hM_21
            replace hw2 := hw2.le hM_21
            replace hb_1 := hM_21.2 _ _ hb_1
            replace hv_7 := hv_7.le RP2_mono hM_21
            replace hv_9 := hv_9.le (RSl_mono RP2_mono) hM_21
            replace hv_12 := hv_12.le hM_21
            replace hv_14 := hv_14.le (RSl_mono RP2_mono) hM_21
            refine S_v E rfl (R_move E rfl) rfl ?_
            clear E a; intro a E
            refine S_x (X_pu E S rfl rfl rfl (laws_pairs h0 (by first | omega | (simp [ixm_len]; done) | (simp [ixm_len]; omega) | (have h9 := kpix_len _ _ _; exact Nat.le_trans h9 (by omega)) | exact Nat.le_trans (kpix_len _ _ _) (by first | omega | (simp; omega)))) (Hp.le.refl _) ?_)
            clear E a S; rintro a v_23 w M_22 hM_22 hv_23 S E
            replace h0 := h0.le RP2_mono hM_22
            replace h1 := h1.le RP2_mono hM_22
            replace hw2 := hw2.le hM_22
            replace hb_1 := hM_22.2 _ _ hb_1
            replace hv_7 := hv_7.le RP2_mono hM_22
            replace hv_9 := hv_9.le (RSl_mono RP2_mono) hM_22
            replace hv_12 := hv_12.le hM_22
            replace hv_14 := hv_14.le (RSl_mono RP2_mono) hM_22
            replace hv_20 := hv_20.le (RSl_mono RP2_mono) hM_22
            refine S_v E rfl (R_move E rfl) rfl ?_
            clear E a; intro a E
            refine S_x (X_pu E S rfl rfl rfl (laws_pairs h1 (by first | omega | (simp [ixm_len]; done) | (simp [ixm_len]; omega) | (have h9 := kpix_len _ _ _; exact Nat.le_trans h9 (by omega)) | exact Nat.le_trans (kpix_len _ _ _) (by first | omega | (simp; omega)))) (Hp.le.refl _) ?_)
            clear E a S; rintro a v_25 w M_24 hM_24 hv_25 S E
            replace h0 := h0.le RP2_mono hM_24
            replace h1 := h1.le RP2_mono hM_24
            replace hw2 := hw2.le hM_24
            replace hb_1 := hM_24.2 _ _ hb_1
            replace hv_7 := hv_7.le RP2_mono hM_24
            replace hv_9 := hv_9.le (RSl_mono RP2_mono) hM_24
            replace hv_12 := hv_12.le hM_24
            replace hv_14 := hv_14.le (RSl_mono RP2_mono) hM_24
            replace hv_20 := hv_20.le (RSl_mono RP2_mono) hM_24
            replace hv_23 := hv_23.le RP2_mono hM_24
            refine S_x (X_buildM (R := (RSl 2 RP2)) (vs := [v_23, v_25]) (xs := [l0, l1]) (RSl_mono RP2_mono) E S rfl T44 rfl rfl rfl (by intro u hu; simp only [List.mem_cons, List.not_mem_nil, or_false] at hu; rcases hu with rfl | rfl <;> first | exact RdS.one' hv_23 | exact RdS.one' hv_25) rfl (rowsC (R := (RSl 2 RP2)) ⟨_, rfl, hv_23⟩ (rowsC (R := (RSl 2 RP2)) ⟨_, rfl, hv_25⟩ rowsN)) ?_)
            clear E a S; rintro a v_26 w M_27 hM_27 hv_26 S E
            replace h0 := h0.le RP2_mono hM_27
            replace h1 := h1.le RP2_mono hM_27
            replace hw2 := hw2.le hM_27
            replace hb_1 := hM_27.2 _ _ hb_1
            replace hv_7 := hv_7.le RP2_mono hM_27
            replace hv_9 := hv_9.le (RSl_mono RP2_mono) hM_27
            replace hv_12 := hv_12.le hM_27
            replace hv_14 := hv_14.le (RSl_mono RP2_mono) hM_27
            replace hv_20 := hv_20.le (RSl_mono RP2_mono) hM_27
            replace hv_23 := hv_23.le RP2_mono hM_27
            replace hv_25 := hv_25.le RP2_mono hM_27
            refine S_v E rfl (R_assign E rfl) rfl ?_
            clear E a; intro a E
            refine S_v E rfl (R_assign E rfl) rfl ?_
            clear E a; intro a E
            refine WL_nil ?_
            refine T_n ?_
            refine WP_seq ?_
            refine WP_region ?_
            refine S_v E rfl (R_move E rfl) rfl ?_
            clear E a; intro a E
            refine S_x (X_pu E S rfl rfl rfl (impl_Keys hv_20 (by first | omega | (simp; done) | (simp; omega)) (by first | omega | (simp; done) | (simp; omega))) (Hp.le.refl _) ?_)
            clear E a S; rintro a v_29 w M_28 hM_28 hv_29 S E
            replace h0 := h0.le RP2_mono hM_28
            replace h1 := h1.le RP2_mono hM_28
            replace hw2 := hw2.le hM_28
            replace hb_1 := hM_28.2 _ _ hb_1
            replace hv_7 := hv_7.le RP2_mono hM_28
            replace hv_9 := hv_9.le (RSl_mono RP2_mono) hM_28
            replace hv_12 := hv_12.le hM_28
            replace hv_14 := hv_14.le (RSl_mono RP2_mono) hM_28
            replace hv_20 := hv_20.le (RSl_mono RP2_mono) hM_28
            replace hv_23 := hv_23.le RP2_mono hM_28
            replace hv_25 := hv_25.le RP2_mono hM_28
            replace hv_26 := hv_26.le (RSl_mono RP2_mono) hM_28
            refine S_v E rfl (R_move E rfl) rfl ?_
            clear E a; intro a E
            refine S_x (X_pu E S rfl rfl rfl (impl_MapItems hv_20 (by first | omega | (simp; done) | (simp; omega)) (by first | omega | (simp; done) | (simp; omega))) (Hp.le.refl _) ?_)
            clear E a S; rintro a v_31 w M_30 hM_30 hv_31 S E
            replace h0 := h0.le RP2_mono hM_30
            replace h1 := h1.le RP2_mono hM_30
            replace hw2 := hw2.le hM_30
            replace hb_1 := hM_30.2 _ _ hb_1
            replace hv_7 := hv_7.le RP2_mono hM_30
            replace hv_9 := hv_9.le (RSl_mono RP2_mono) hM_30
            replace hv_12 := hv_12.le hM_30
            replace hv_14 := hv_14.le (RSl_mono RP2_mono) hM_30
            replace hv_20 := hv_20.le (RSl_mono RP2_mono) hM_30
            replace hv_23 := hv_23.le RP2_mono hM_30
            replace hv_25 := hv_25.le RP2_mono hM_30
            replace hv_26 := hv_26.le (RSl_mono RP2_mono) hM_30
            replace hv_29 := hv_29.le hM_30
            refine S_v E rfl (R_assign E rfl) rfl ?_
            clear E a; intro a E
            refine S_v E rfl (R_assign E rfl) rfl ?_
            clear E a; intro a E
            refine WL_nil ?_
            refine T_n ?_
            refine WP_seq ?_
            refine WP_seq ?_
            refine WP_region ?_
            refine S_v E rfl (R_move E rfl) rfl ?_
            clear E a; intro a E
            refine S_x (X_pu E S rfl rfl rfl (impl_UniqKeys hv_20 (by first | omega | (simp; done) | (simp; omega)) (by first | omega | (simp; done) | (simp; omega))) (Hp.le.refl _) ?_)
            clear E a S; rintro a v_33 w M_32 hM_32 hv_33 S E
            replace h0 := h0.le RP2_mono hM_32
            replace h1 := h1.le RP2_mono hM_32
            replace hw2 := hw2.le hM_32
            replace hb_1 := hM_32.2 _ _ hb_1
            replace hv_7 := hv_7.le RP2_mono hM_32
            replace hv_9 := hv_9.le (RSl_mono RP2_mono) hM_32
            replace hv_12 := hv_12.le hM_32
            replace hv_14 := hv_14.le (RSl_mono RP2_mono) hM_32
            replace hv_20 := hv_20.le (RSl_mono RP2_mono) hM_32
            replace hv_23 := hv_23.le RP2_mono hM_32
            replace hv_25 := hv_25.le RP2_mono hM_32
            replace hv_26 := hv_26.le (RSl_mono RP2_mono) hM_32
            replace hv_29 := hv_29.le hM_32
            replace hv_31 := hv_31.le hM_32
            refine S_v E rfl (R_move E rfl) rfl ?_
            clear E a; intro a E
            refine S_x (X_pu E S rfl rfl rfl (laws_sorted hv_29 (by (first | omega | (simp; omega) | (simp; done) | (simp_all; omega) | grind))) (Hp.le.refl _) ?_)
            clear E a S; rintro a v_35 w M_34 hM_34 hv_35 S E
            replace h0 := h0.le RP2_mono hM_34
            replace h1 := h1.le RP2_mono hM_34
            replace hw2 := hw2.le hM_34
            replace hb_1 := hM_34.2 _ _ hb_1
            replace hv_7 := hv_7.le RP2_mono hM_34
            replace hv_9 := hv_9.le (RSl_mono RP2_mono) hM_34
            replace hv_12 := hv_12.le hM_34
            replace hv_14 := hv_14.le (RSl_mono RP2_mono) hM_34
            replace hv_20 := hv_20.le (RSl_mono RP2_mono) hM_34
            replace hv_23 := hv_23.le RP2_mono hM_34
            replace hv_25 := hv_25.le RP2_mono hM_34
            replace hv_26 := hv_26.le (RSl_mono RP2_mono) hM_34
            replace hv_29 := hv_29.le hM_34
            replace hv_31 := hv_31.le hM_34
            replace hv_33 := hv_33.le hM_34
            refine S_x (X_pu E S rfl rfl rfl (laws_eq hv_33 hv_35) (Hp.le.refl _) ?_)
            clear E a S; rintro a _ w M_36 hM_36 rfl S E
            replace h0 := h0.le RP2_mono hM_36
            replace h1 := h1.le RP2_mono hM_36
            replace hw2 := hw2.le hM_36
            replace hb_1 := hM_36.2 _ _ hb_1
            replace hv_7 := hv_7.le RP2_mono hM_36
            replace hv_9 := hv_9.le (RSl_mono RP2_mono) hM_36
            replace hv_12 := hv_12.le hM_36
            replace hv_14 := hv_14.le (RSl_mono RP2_mono) hM_36
            replace hv_20 := hv_20.le (RSl_mono RP2_mono) hM_36
            replace hv_23 := hv_23.le RP2_mono hM_36
            replace hv_25 := hv_25.le RP2_mono hM_36
            replace hv_26 := hv_26.le (RSl_mono RP2_mono) hM_36
            replace hv_29 := hv_29.le hM_36
            replace hv_31 := hv_31.le hM_36
            replace hv_33 := hv_33.le hM_36
            replace hv_35 := hv_35.le hM_36
            refine S_v E rfl (R_not E rfl) rfl ?_
            clear E a; intro a E
            refine S_v E rfl (R_move E rfl) rfl ?_
            clear E a; intro a E
            have hc_37 : (!(decide (setI (keysM [l0, l1]) = setI (srtM (keysM [l0, l1]))))) = false := by (clear S E; first | (simp; done) | decide | (simp only [kv_one]; decide) | (simp only [kv_len]; simp; done) | (simp only [kv_lens]; simp; done) | (simp only [set_srt, keyL_srt]; simp; done) | (first | refine dec_t ?_ | refine dec_f ?_ | skip); first | rfl | exact (set_srt _).symm | (rw [List.take_of_length_le (by omega)]; first | exact kv_fk _ _ | exact kv_fv _ _))
            replace E := E.val (t := 62) rfl hc_37
            replace E := E.val (t := 63) rfl hc_37
            refine WL_guard_yes E rfl rfl ?_
            refine S_v E rfl (R_move E rfl) rfl ?_
            clear E a; intro a E
            refine WL_guard_yes E rfl rfl ?_
            refine S_x (X_pu E S rfl rfl rfl (impl_UniqValues hv_20 (by first | omega | (simp; done) | (simp; omega)) (by first | omega | (simp; done) | (simp; omega))) (Hp.le.refl _) ?_)
            clear E a S; rintro a v_39 w M_38 hM_38 hv_39 S E
            replace h0 := h0.le RP2_mono hM_38
            replace h1 := h1.le RP2_mono hM_38
            replace hw2 := hw2.le hM_38
            replace hb_1 := hM_38.2 _ _ hb_1
            replace hv_7 := hv_7.le RP2_mono hM_38
            replace hv_9 := hv_9.le (RSl_mono RP2_mono) hM_38
            replace hv_12 := hv_12.le hM_38
            replace hv_14 := hv_14.le (RSl_mono RP2_mono) hM_38
            replace hv_20 := hv_20.le (RSl_mono RP2_mono) hM_38
            replace hv_23 := hv_23.le RP2_mono hM_38
            replace hv_25 := hv_25.le RP2_mono hM_38
            replace hv_26 := hv_26.le (RSl_mono RP2_mono) hM_38
            replace hv_29 := hv_29.le hM_38
            replace hv_31 := hv_31.le hM_38
            replace hv_33 := hv_33.le hM_38
            replace hv_35 := hv_35.le hM_38
            refine WL_guard_yes E rfl rfl ?_
            refine S_v E rfl (R_move E rfl) rfl ?_
            clear E a; intro a E
            refine WL_guard_yes E rfl rfl ?_
            refine S_x (X_pu E S rfl rfl rfl (laws_sorted hv_31 (by (first | omega | (simp; omega) | (simp; done) | (simp_all; omega) | grind))) (Hp.le.refl _) ?_)
            clear E a S; rintro a v_41 w M_40 hM_40 hv_41 S E
            replace h0 := h0.le RP2_mono hM_40
            replace h1 := h1.le RP2_mono hM_40
            replace hw2 := hw2.le hM_40
            replace hb_1 := hM_40.2 _ _ hb_1
            replace hv_7 := hv_7.le RP2_mono hM_40
            replace hv_9 := hv_9.le (RSl_mono RP2_mono) hM_40
            replace hv_12 := hv_12.le hM_40
            replace hv_14 := hv_14.le (RSl_mono RP2_mono) hM_40
            replace hv_20 := hv_20.le (RSl_mono RP2_mono) hM_40
            replace hv_23 := hv_23.le RP2_mono hM_40
            replace hv_25 := hv_25.le RP2_mono hM_40
            replace hv_26 := hv_26.le (RSl_mono RP2_mono) hM_40
            replace hv_29 := hv_29.le hM_40
            replace hv_31 := hv_31.le hM_40
            replace hv_33 := hv_33.le hM_40
            replace hv_35 := hv_35.le hM_40
            replace hv_39 := hv_39.le hM_40
            refine WL_guard_yes E rfl rfl ?_
            refine S_x (X_pu E S rfl rfl rfl (laws_eq hv_39 hv_41) (Hp.le.refl _) ?_)
            clear E a S; rintro a _ w M_42 hM_42 rfl S E
            replace h0 := h0.le RP2_mono hM_42
            replace h1 := h1.le RP2_mono hM_42
            replace hw2 := hw2.le hM_42
            replace hb_1 := hM_42.2 _ _ hb_1
            replace hv_7 := hv_7.le RP2_mono hM_42
            replace hv_9 := hv_9.le (RSl_mono RP2_mono) hM_42
            replace hv_12 := hv_12.le hM_42
            replace hv_14 := hv_14.le (RSl_mono RP2_mono) hM_42
            replace hv_20 := hv_20.le (RSl_mono RP2_mono) hM_42
            replace hv_23 := hv_23.le RP2_mono hM_42
            replace hv_25 := hv_25.le RP2_mono hM_42
            replace hv_26 := hv_26.le (RSl_mono RP2_mono) hM_42
            replace hv_29 := hv_29.le hM_42
            replace hv_31 := hv_31.le hM_42
            replace hv_33 := hv_33.le hM_42
            replace hv_35 := hv_35.le hM_42
            replace hv_39 := hv_39.le hM_42
            replace hv_41 := hv_41.le hM_42
            refine WL_guard_yes E rfl rfl ?_
            refine S_v E rfl (R_not E rfl) rfl ?_
            clear E a; intro a E
            refine S_v E rfl (R_pickF E rfl rfl) rfl ?_
            clear E a; intro a E
            refine S_v E rfl (R_move E rfl) rfl ?_
            clear E a; intro a E
            have hc_43 : (!(decide (setI (valsM [l0, l1]) = setI (srtM (valsM [l0, l1]))))) = false := by (clear S E; first | (simp; done) | decide | (simp only [kv_one]; decide) | (simp only [kv_len]; simp; done) | (simp only [kv_lens]; simp; done) | (simp only [set_srt, keyL_srt]; simp; done) | (first | refine dec_t ?_ | refine dec_f ?_ | skip); first | rfl | exact (set_srt _).symm | (rw [List.take_of_length_le (by omega)]; first | exact kv_fk _ _ | exact kv_fv _ _))
            replace E := E.val (t := 69) rfl hc_43
            replace E := E.val (t := 70) rfl hc_43
            replace E := E.val (t := 71) rfl hc_43
            refine WL_guard_yes E rfl rfl ?_
            refine S_v E rfl (R_move E rfl) rfl ?_
            clear E a; intro a E
            refine WL_guard_yes E rfl rfl ?_
            refine S_v E rfl (R_lenV E rfl T22 hv_29.len) rfl ?_
            clear E a; intro a E
            refine WL_guard_yes E rfl rfl ?_
            refine S_v E rfl (R_move E rfl) rfl ?_
            clear E a; intro a E
            refine WL_guard_yes E rfl rfl ?_
            refine S_v E rfl (R_lenV E rfl T22 hv_31.len) rfl ?_
            clear E a; intro a E
            refine WL_guard_yes E rfl rfl ?_
            refine S_v E rfl (R_neq E rfl rfl) rfl ?_
            clear E a; intro a E
            refine S_v E rfl (R_pickF E rfl rfl) rfl ?_
            clear E a; intro a E
            refine S_v E rfl (R_move E rfl) rfl ?_
            clear E a; intro a E
            have hc_44 : (decide ((((srtM (keysM [l0, l1])).length : Nat) : Int) ≠ (((srtM (valsM [l0, l1])).length : Nat) : Int))) = false := by (clear S E; first | (simp; done) | decide | (simp only [kv_one]; decide) | (simp only [kv_len]; simp; done) | (simp only [kv_lens]; simp; done) | (simp only [set_srt, keyL_srt]; simp; done) | (first | refine dec_t ?_ | refine dec_f ?_ | skip); first | rfl | exact (set_srt _).symm | (rw [List.take_of_length_le (by omega)]; first | exact kv_fk _ _ | exact kv_fv _ _))
            replace E := E.val (t := 76) rfl hc_44
            replace E := E.val (t := 77) rfl hc_44
            replace E := E.val (t := 78) rfl hc_44
            refine WL_guard_yes E rfl rfl ?_
            refine S_v E rfl (R_move E rfl) rfl ?_
            clear E a; intro a E
            refine WL_guard_yes E rfl rfl ?_
            refine S_v E rfl (R_lenV E rfl T22 hv_29.len) rfl ?_
            clear E a; intro a E
            refine WL_guard_yes E rfl rfl ?_
            refine S_v E rfl (R_move E rfl) rfl ?_
            clear E a; intro a E
            refine WL_guard_yes E rfl rfl ?_
            refine S_x (X_pu E S rfl rfl rfl (impl_Entries h0 (by first | omega | (simp [ixm_len]; done) | (simp [ixm_len]; omega) | (have h9 := kpix_len _ _ _; exact Nat.le_trans h9 (by omega)) | exact Nat.le_trans (kpix_len _ _ _) (by first | omega | (simp; omega)))) (Hp.le.refl _) ?_)
            clear E a S; rintro a v_46 w M_45 hM_45 hv_46 S E
            replace h0 := h0.le RP2_mono hM_45
            replace h1 := h1.le RP2_mono hM_45
            replace hw2 := hw2.le hM_45
            replace hb_1 := hM_45.2 _ _ hb_1
            replace hv_7 := hv_7.le RP2_mono hM_45
            replace hv_9 := hv_9.le (RSl_mono RP2_mono) hM_45
            replace hv_12 := hv_12.le hM_45
            replace hv_14 := hv_14.le (RSl_mono RP2_mono) hM_45
            replace hv_20 := hv_20.le (RSl_mono RP2_mono) hM_45
            replace hv_23 := hv_23.le RP2_mono hM_45
            replace hv_25 := hv_25.le RP2_mono hM_45
            replace hv_26 := hv_26.le (RSl_mono RP2_mono) hM_45
            replace hv_29 := hv_29.le hM_45
            replace hv_31 := hv_31.le hM_45
            replace hv_33 := hv_33.le hM_45
            replace hv_35 := hv_35.le hM_45
            replace hv_39 := hv_39.le hM_45
            replace hv_41 := hv_41.le hM_45
            refine WL_guard_yes E rfl rfl ?_
            refine S_v E rfl (R_lenV E rfl T25 hv_46.len) rfl ?_
            clear E a; intro a E
            refine WL_guard_yes E rfl rfl ?_
            refine S_v E rfl (R_move E rfl) rfl ?_
            clear E a; intro a E
            refine WL_guard_yes E rfl rfl ?_
            refine S_x (X_pu E S rfl rfl rfl (impl_Entries h1 (by first | omega | (simp [ixm_len]; done) | (simp [ixm_len]; omega) | (have h9 := kpix_len _ _ _; exact Nat.le_trans h9 (by omega)) | exact Nat.le_trans (kpix_len _ _ _) (by first | omega | (simp; omega)))) (Hp.le.refl _) ?_)
            clear E a S; rintro a v_48 w M_47 hM_47 hv_48 S E
            replace h0 := h0.le RP2_mono hM_47
            replace h1 := h1.le RP2_mono hM_47
            replace hw2 := hw2.le hM_47
            replace hb_1 := hM_47.2 _ _ hb_1
            replace hv_7 := hv_7.le RP2_mono hM_47
            replace hv_9 := hv_9.le (RSl_mono RP2_mono) hM_47
            replace hv_12 := hv_12.le hM_47
            replace hv_14 := hv_14.le (RSl_mono RP2_mono) hM_47
            replace hv_20 := hv_20.le (RSl_mono RP2_mono) hM_47
            replace hv_23 := hv_23.le RP2_mono hM_47
            replace hv_25 := hv_25.le RP2_mono hM_47
            replace hv_26 := hv_26.le (RSl_mono RP2_mono) hM_47
            replace hv_29 := hv_29.le hM_47
            replace hv_31 := hv_31.le hM_47
            replace hv_33 := hv_33.le hM_47
            replace hv_35 := hv_35.le hM_47
            replace hv_39 := hv_39.le hM_47
            replace hv_41 := hv_41.le hM_47
            replace hv_46 := hv_46.le RP2_mono hM_47
            refine WL_guard_yes E rfl rfl ?_
            refine S_v E rfl (R_lenV E rfl T25 hv_48.len) rfl ?_
            clear E a; intro a E
            refine WL_guard_yes E rfl rfl ?_
            refine S_v E rfl (R_addx (m := (((entE l0).length + (entE l1).length : Nat) : Int)) E rfl rfl (by omega) (by omega)) rfl ?_
            clear E a; intro a E
            refine WL_guard_yes E rfl rfl ?_
            refine S_v E rfl (R_neq E rfl rfl) rfl ?_
            clear E a; intro a E
            refine S_v E rfl (R_pickF E rfl rfl) rfl ?_
            clear E a; intro a E
            refine WL_nil ?_
            refine T_n ?_
            have hc_49 : (decide ((((srtM (keysM [l0, l1])).length : Nat) : Int) ≠ (((entE l0).length + (entE l1).length : Nat) : Int))) = false := by (clear S E; first | (simp; done) | decide | (simp only [kv_one]; decide) | (simp only [kv_len]; simp; done) | (simp only [kv_lens]; simp; done) | (simp only [set_srt, keyL_srt]; simp; done) | (first | refine dec_t ?_ | refine dec_f ?_ | skip); first | rfl | exact (set_srt _).symm | (rw [List.take_of_length_le (by omega)]; first | exact kv_fk _ _ | exact kv_fv _ _))
            refine WP_condF E rfl hc_49 ?_
            refine WP_skip ?_
            refine T_n ?_
            refine WP_seq ?_
            refine WP_region ?_
            refine S_v E rfl (R_move E rfl) rfl ?_
            clear E a; intro a E
            refine S_v E rfl (R_loadGM E rfl (Tryz.isAgg38 _) (Tryz.sizeOf38 _) S.imm hb_1) rfl ?_
            clear E a; intro a E
            refine S_x (X_pu E S rfl rfl rfl (impl_PickBy h0 hw2 (by omega) (by first | omega | (simp; done) | (simp; omega) | exact Nat.le_trans (mkE_len _) (by omega))) (Hp.le.refl _) ?_)
            clear E a S; rintro a v_51 w M_50 hM_50 hv_51 S E
            replace h0 := h0.le RP2_mono hM_50
            replace h1 := h1.le RP2_mono hM_50
            replace hw2 := hw2.le hM_50
            replace hb_1 := hM_50.2 _ _ hb_1
            replace hv_7 := hv_7.le RP2_mono hM_50
            replace hv_9 := hv_9.le (RSl_mono RP2_mono) hM_50
            replace hv_12 := hv_12.le hM_50
            replace hv_14 := hv_14.le (RSl_mono RP2_mono) hM_50
            replace hv_20 := hv_20.le (RSl_mono RP2_mono) hM_50
            replace hv_23 := hv_23.le RP2_mono hM_50
            replace hv_25 := hv_25.le RP2_mono hM_50
            replace hv_26 := hv_26.le (RSl_mono RP2_mono) hM_50
            replace hv_29 := hv_29.le hM_50
            replace hv_31 := hv_31.le hM_50
            replace hv_33 := hv_33.le hM_50
            replace hv_35 := hv_35.le hM_50
            replace hv_39 := hv_39.le hM_50
            replace hv_41 := hv_41.le hM_50
            replace hv_46 := hv_46.le RP2_mono hM_50
            replace hv_48 := hv_48.le RP2_mono hM_50
            refine S_v E rfl (R_assign E rfl) rfl ?_
            clear E a; intro a E
            refine WL_nil ?_
            refine T_n ?_
            refine WP_seq ?_
            refine WP_region ?_
            refine S_v E rfl (R_assign E rfl) rfl ?_
            clear E a; intro a E
            refine S_v E rfl (R_assign E rfl) rfl ?_
            clear E a; intro a E
            refine WL_nil ?_
            refine T_n ?_
            refine WP_seq ?_
            refine WP_seq ?_
            refine WP_region ?_
            refine S_v E rfl (R_move E rfl) rfl ?_
            clear E a; intro a E
            refine S_v E rfl (R_lenV E rfl T25 hv_51.len) rfl ?_
            clear E a; intro a E
            refine S_v E rfl (R_move E rfl) rfl ?_
            clear E a; intro a E
            refine WL_nil ?_
            refine T_n ?_
            refine WP_block ?_
            replace S := (S.ownNil (e := 3) (sz := 1)).made0
            replace S := (S.ownNil (e := 3) (sz := 1)).made0
            replace S := S.front1
            replace S := S.re1 (l' := ((entE ((mkE l0).filter (fun e : Int × Int => predAt pk2 pn2 pl2 e.1 e.2))).take 0).map Prod.snd) (by first | (simp; done) | (rw [tk_snoc (by assumption), List.map_append]; rfl))
            replace S := S.front1
            replace S := S.re1 (l' := ((entE ((mkE l0).filter (fun e : Int × Int => predAt pk2 pn2 pl2 e.1 e.2))).take 0).map Prod.fst) (by first | (simp; done) | (rw [tk_snoc (by assumption), List.map_append]; rfl))
            refine WP_loop (γ := Nat) (fun (k : Nat) a w => ∃ (M_54 : Hp) (u12 : Value) (u13 : Value), Hp.le M_50 M_54 ∧ St w M_54 (OwnI 3 u12 (((entE ((mkE l0).filter (fun e : Int × Int => predAt pk2 pn2 pl2 e.1 e.2))).take k).map Prod.fst) :: OwnI 3 u13 (((entE ((mkE l0).filter (fun e : Int × Int => predAt pk2 pn2 pl2 e.1 e.2))).take k).map Prod.snd) :: H) ∧ Env a 148 [] [(0, v0), (5, .pointer (some ⟨b_1, 0, none⟩)), (7, v_20), (8, v_26), (9, v_29), (10, v_31), (12, u12), (13, u13), (93, v_51), (94, .int .i64 (((entE ((mkE l0).filter (fun e : Int × Int => predAt pk2 pn2 pl2 e.1 e.2))).length : Nat) : Int)), (95, .int .i64 ((k : Nat) : Int))] ∧ (k ≤ (entE ((mkE l0).filter (fun e : Int × Int => predAt pk2 pn2 pl2 e.1 e.2))).length)) (fun k => ((entE ((mkE l0).filter (fun e : Int × Int => predAt pk2 pn2 pl2 e.1 e.2))).length) - k) 0 ⟨M_50, _, _, Hp.le.refl _, S, E.keep ⟨rfl, rfl, rfl, rfl, rfl, rfl, rfl, rfl, rfl, rfl, rfl, trivial⟩, by ((try clear S); (try clear E); first | assumption | omega | rfl | (simp; done) | (simp_all; done) | (simp [List.take_add_one, *]; done) | grind [List.take_add_one])⟩ ?_
            try clear E
            try clear S
            try clear a
            try clear w
            rintro k a w ⟨M_54, u12, u13, hM_54, S, E, hL0_0⟩
            replace h0 := h0.le RP2_mono hM_54
            replace h1 := h1.le RP2_mono hM_54
            replace hw2 := hw2.le hM_54
            replace hb_1 := hM_54.2 _ _ hb_1
            replace hv_7 := hv_7.le RP2_mono hM_54
            replace hv_9 := hv_9.le (RSl_mono RP2_mono) hM_54
            replace hv_12 := hv_12.le hM_54
            replace hv_14 := hv_14.le (RSl_mono RP2_mono) hM_54
            replace hv_20 := hv_20.le (RSl_mono RP2_mono) hM_54
            replace hv_23 := hv_23.le RP2_mono hM_54
            replace hv_25 := hv_25.le RP2_mono hM_54
            replace hv_26 := hv_26.le (RSl_mono RP2_mono) hM_54
            replace hv_29 := hv_29.le hM_54
            replace hv_31 := hv_31.le hM_54
            replace hv_33 := hv_33.le hM_54
            replace hv_35 := hv_35.le hM_54
            replace hv_39 := hv_39.le hM_54
            replace hv_41 := hv_41.le hM_54
            replace hv_46 := hv_46.le RP2_mono hM_54
            replace hv_48 := hv_48.le RP2_mono hM_54
            replace hv_51 := hv_51.le RP2_mono hM_54
            have hpt := List.length_take_le k (entE ((mkE l0).filter (fun e : Int × Int => predAt pk2 pn2 pl2 e.1 e.2)))
            refine WP_seq ?_
            refine WP_region ?_
            refine S_v E rfl (R_lss E rfl rfl) rfl ?_
            clear E a; intro a E
            refine WL_nil ?_
            refine T_n ?_
            refine WP_seq ?_
            refine WP_cond E rfl (fun hc_55 => ?_) (fun hc_55 => ?_)
            · replace hc_55 := of_decide_eq_true hc_55
              refine WP_skip ?_
              refine T_n ?_
              refine WP_seq ?_
              refine WP_block ?_
              refine WP_seq ?_
              refine WP_region ?_
              obtain ⟨x_56, hx_56⟩ : ∃ x, (entE ((mkE l0).filter (fun e : Int × Int => predAt pk2 pn2 pl2 e.1 e.2)))[k]? = some x := ⟨_, List.getElem?_eq_getElem (by first | omega | (simp; done) | (simp; omega) | (simp_all; omega))⟩
              obtain ⟨p_57, hp_57, qp_57⟩ := RdP2.at hv_51 hx_56
              refine S_v E rfl (R_idx E rfl rfl T25 hp_57 rfl) rfl ?_
              clear E a; intro a E
              refine S_v E rfl (R_loadA (cs := [.int .i64 x_56.1, .int .i64 x_56.2]) E rfl (Tryz.isAgg29 _) (Tryz.sizeOf29 _) S.imm qp_57) rfl ?_
              clear E a; intro a E
              refine S_x (X_alloc (cs := #[.int .i64 0, .int .i64 0]) E S rfl Tryz.zeroValue29 rfl ?_)
              clear E a S; rintro a w b_58 E S
              refine S_x0 (X_storeG (us := [.int .i64 x_56.1, .int .i64 x_56.2]) E S rfl rfl (Tryz.sizeOf29 _) rfl (by intro u hu; simp only [List.mem_cons, List.not_mem_nil, or_false] at hu; rcases hu with rfl | rfl <;> first | exact rfl | exact rfl) ?_)
              clear E a S; rintro a w E S
              replace S : St w M_54 (blk b_58 (.cells #[.int .i64 x_56.1, .int .i64 x_56.2] 29) :: _) := S
              have S0 := S; clear S
              obtain ⟨M_59, hM_59, hb_60, S⟩ := S0.freezeB
              clear S0
              replace h0 := h0.le RP2_mono hM_59
              replace h1 := h1.le RP2_mono hM_59
              replace hw2 := hw2.le hM_59
              replace hb_1 := hM_59.2 _ _ hb_1
              replace hv_7 := hv_7.le RP2_mono hM_59
              replace hv_9 := hv_9.le (RSl_mono RP2_mono) hM_59
              replace hv_12 := hv_12.le hM_59
              replace hv_14 := hv_14.le (RSl_mono RP2_mono) hM_59
              replace hv_20 := hv_20.le (RSl_mono RP2_mono) hM_59
              replace hv_23 := hv_23.le RP2_mono hM_59
              replace hv_25 := hv_25.le RP2_mono hM_59
              replace hv_26 := hv_26.le (RSl_mono RP2_mono) hM_59
              replace hv_29 := hv_29.le hM_59
              replace hv_31 := hv_31.le hM_59
              replace hv_33 := hv_33.le hM_59
              replace hv_35 := hv_35.le hM_59
              replace hv_39 := hv_39.le hM_59
              replace hv_41 := hv_41.le hM_59
              replace hv_46 := hv_46.le RP2_mono hM_59
              replace hv_48 := hv_48.le RP2_mono hM_59
              replace hv_51 := hv_51.le RP2_mono hM_59
              refine WL_nil ?_
              refine T_n ?_
              refine DG_start Tryz.mixed ?_
              refine DG_split 3 8 (by decide) (by kernel_rfl) ?_ ?_
              · refine DG_split 4 8 (by decide) (by kernel_rfl) ?_ ?_
                · have hb_1k60 := hb_1
                  have qp_57k60 := qp_57
                  have hb_60k60 := hb_60
                  replace S := S.mono_heap (w' := World.drew _) rfl
                  refine DG_end (C := fun x w => agree M_59 w) (bf := (fun i => [])) [0, 1, 2, 5, 6, 7, 10, 11] [0, 1, 2, 5, 6, 7, 3, 4, 8, 9, 10, 11] (by kernel_rfl) (fun x hq => S.imm) ?_
                  refine D_v E rfl rfl rfl (fun w hC => (R_move E rfl)) ?_
                  clear E a; intro a E
                  refine D_v E rfl rfl rfl (fun w hC => (R_fieldAddr E rfl (FA29_0 _))) ?_
                  clear E a; intro a E
                  refine D_v E rfl rfl rfl (fun w hC => (R_loadM E rfl Tryz.isAgg3 hC (cellM_boxo hb_60k60 rfl))) ?_
                  clear E a; intro a E
                  refine D_v E rfl rfl rfl (fun w hC => (R_move E rfl)) ?_
                  clear E a; intro a E
                  refine D_v E rfl rfl rfl (fun w hC => (R_fieldAddr E rfl (FA29_1 _))) ?_
                  clear E a; intro a E
                  refine D_v E rfl rfl rfl (fun w hC => (R_loadM E rfl Tryz.isAgg3 hC (cellM_boxo hb_60k60 rfl))) ?_
                  clear E a; intro a E
                  refine D_x rfl rfl rfl (X_buildI (ys := [x_56.1]) E S rfl T22 rfl rfl rfl ?_)
                  clear E a S; rintro a w v_61 E S
                  refine ⟨fun x hq hb => (agree_le (Hp.le.refl _) S.imm), ?_⟩
                  replace S := S.front1
                  replace S := S.front1
                  refine D_x rfl rfl rfl (X_appendB (xs := ((entE ((mkE l0).filter (fun e : Int × Int => predAt pk2 pn2 pl2 e.1 e.2))).take k).map Prod.fst) (ys := [x_56.1]) E S rfl rfl rfl T22 (by (simp only [List.length_map, List.length_cons, List.length_nil] at *; omega)) ?_)
                  clear E a S; rintro a w v_62 E S
                  refine ⟨fun x hq hb => (agree_le (Hp.le.refl _) S.imm), ?_⟩
                  refine D_x rfl rfl rfl (X_buildI (ys := [x_56.2]) E S rfl T22 rfl rfl rfl ?_)
                  clear E a S; rintro a w v_63 E S
                  refine ⟨fun x hq hb => (agree_le (Hp.le.refl _) S.imm), ?_⟩
                  replace S := S.front2
                  replace S := S.front1
                  refine D_x rfl rfl rfl (X_appendB (xs := ((entE ((mkE l0).filter (fun e : Int × Int => predAt pk2 pn2 pl2 e.1 e.2))).take k).map Prod.snd) (ys := [x_56.2]) E S rfl rfl rfl T22 (by (simp only [List.length_map, List.length_cons, List.length_nil] at *; omega)) ?_)
                  clear E a S; rintro a w v_64 E S
                  refine ⟨fun x hq hb => (agree_le (Hp.le.refl _) S.imm), ?_⟩
                  refine D_v E rfl rfl rfl (fun w hC => (R_assign E rfl)) ?_
                  clear E a; intro a E
                  refine D_v E rfl rfl rfl (fun w hC => (R_assign E rfl)) ?_
                  clear E a; intro a E
                  refine D_end (NoP_n ?_)
                  refine B_n ?_
                  refine T_n ?_
                  refine WP_region ?_
                  refine S_v E rfl (R_addx (m := ((k + 1 : Nat) : Int)) E rfl rfl (by omega) (by omega)) rfl ?_
                  clear E a; intro a E
                  refine S_v E rfl (R_move E rfl) rfl ?_
                  clear E a; intro a E
                  refine WL_nil ?_
                  refine T_n ?_
                  replace S := S.front1
                  replace S := S.front1
                  replace S := S.re1 (l' := ((entE ((mkE l0).filter (fun e : Int × Int => predAt pk2 pn2 pl2 e.1 e.2))).take (k + 1)).map Prod.snd) (by first | (simp; done) | (rw [tk_snoc (by assumption), List.map_append]; rfl))
                  replace S := S.front1
                  replace S := S.re1 (l' := ((entE ((mkE l0).filter (fun e : Int × Int => predAt pk2 pn2 pl2 e.1 e.2))).take (k + 1)).map Prod.fst) (by first | (simp; done) | (rw [tk_snoc (by assumption), List.map_append]; rfl))
                  exact ⟨k + 1, ⟨M_59, _, _, (hM_54.trans hM_59), S, E.keep ⟨rfl, rfl, rfl, rfl, rfl, rfl, rfl, rfl, rfl, rfl, rfl, trivial⟩, by ((try clear S); (try clear E); first | assumption | omega | rfl | (simp; done) | (simp_all; done) | (simp [List.take_add_one, *]; done) | grind [List.take_add_one])⟩, by omega⟩
                · have hb_1k64 := hb_1
                  have qp_57k64 := qp_57
                  have hb_60k64 := hb_60
                  replace S := S.mono_heap (w' := World.drew _) rfl
                  refine DG_end (C := fun x w => agree M_59 w) (bf := (fun i => [])) [0, 1, 2, 5, 6, 7, 10, 11] [0, 1, 2, 5, 6, 7, 3, 8, 4, 9, 10, 11] (by kernel_rfl) (fun x hq => S.imm) ?_
                  refine D_v E rfl rfl rfl (fun w hC => (R_move E rfl)) ?_
                  clear E a; intro a E
                  refine D_v E rfl rfl rfl (fun w hC => (R_fieldAddr E rfl (FA29_0 _))) ?_
                  clear E a; intro a E
                  refine D_v E rfl rfl rfl (fun w hC => (R_loadM E rfl Tryz.isAgg3 hC (cellM_boxo hb_60k64 rfl))) ?_
                  clear E a; intro a E
                  refine D_v E rfl rfl rfl (fun w hC => (R_move E rfl)) ?_
                  clear E a; intro a E
                  refine D_v E rfl rfl rfl (fun w hC => (R_fieldAddr E rfl (FA29_1 _))) ?_
                  clear E a; intro a E
                  refine D_v E rfl rfl rfl (fun w hC => (R_loadM E rfl Tryz.isAgg3 hC (cellM_boxo hb_60k64 rfl))) ?_
                  clear E a; intro a E
                  refine D_x rfl rfl rfl (X_buildI (ys := [x_56.1]) E S rfl T22 rfl rfl rfl ?_)
                  clear E a S; rintro a w v_65 E S
                  refine ⟨fun x hq hb => (agree_le (Hp.le.refl _) S.imm), ?_⟩
                  refine D_x rfl rfl rfl (X_buildI (ys := [x_56.2]) E S rfl T22 rfl rfl rfl ?_)
                  clear E a S; rintro a w v_66 E S
                  refine ⟨fun x hq hb => (agree_le (Hp.le.refl _) S.imm), ?_⟩
                  replace S := S.front2
                  replace S := S.front2
                  refine D_x rfl rfl rfl (X_appendB (xs := ((entE ((mkE l0).filter (fun e : Int × Int => predAt pk2 pn2 pl2 e.1 e.2))).take k).map Prod.fst) (ys := [x_56.1]) E S rfl rfl rfl T22 (by (simp only [List.length_map, List.length_cons, List.length_nil] at *; omega)) ?_)
                  clear E a S; rintro a w v_67 E S
                  refine ⟨fun x hq hb => (agree_le (Hp.le.refl _) S.imm), ?_⟩
                  replace S := S.front2
                  replace S := S.front2
                  refine D_x rfl rfl rfl (X_appendB (xs := ((entE ((mkE l0).filter (fun e : Int × Int => predAt pk2 pn2 pl2 e.1 e.2))).take k).map Prod.snd) (ys := [x_56.2]) E S rfl rfl rfl T22 (by (simp only [List.length_map, List.length_cons, List.length_nil] at *; omega)) ?_)
                  clear E a S; rintro a w v_68 E S
                  refine ⟨fun x hq hb => (agree_le (Hp.le.refl _) S.imm), ?_⟩
                  refine D_v E rfl rfl rfl (fun w hC => (R_assign E rfl)) ?_
                  clear E a; intro a E
                  refine D_v E rfl rfl rfl (fun w hC => (R_assign E rfl)) ?_
                  clear E a; intro a E
                  refine D_end (NoP_n ?_)
                  refine B_n ?_
                  refine T_n ?_
                  refine WP_region ?_
                  refine S_v E rfl (R_addx (m := ((k + 1 : Nat) : Int)) E rfl rfl (by omega) (by omega)) rfl ?_
                  clear E a; intro a E
                  refine S_v E rfl (R_move E rfl) rfl ?_
                  clear E a; intro a E
                  refine WL_nil ?_
                  refine T_n ?_
                  replace S := S.front1
                  replace S := S.front1
                  replace S := S.re1 (l' := ((entE ((mkE l0).filter (fun e : Int × Int => predAt pk2 pn2 pl2 e.1 e.2))).take (k + 1)).map Prod.snd) (by first | (simp; done) | (rw [tk_snoc (by assumption), List.map_append]; rfl))
                  replace S := S.front1
                  replace S := S.re1 (l' := ((entE ((mkE l0).filter (fun e : Int × Int => predAt pk2 pn2 pl2 e.1 e.2))).take (k + 1)).map Prod.fst) (by first | (simp; done) | (rw [tk_snoc (by assumption), List.map_append]; rfl))
                  exact ⟨k + 1, ⟨M_59, _, _, (hM_54.trans hM_59), S, E.keep ⟨rfl, rfl, rfl, rfl, rfl, rfl, rfl, rfl, rfl, rfl, rfl, trivial⟩, by ((try clear S); (try clear E); first | assumption | omega | rfl | (simp; done) | (simp_all; done) | (simp [List.take_add_one, *]; done) | grind [List.take_add_one])⟩, by omega⟩
              · have hb_1k68 := hb_1
                have qp_57k68 := qp_57
                have hb_60k68 := hb_60
                replace S := S.mono_heap (w' := World.drew _) rfl
                refine DG_end (C := fun x w => agree M_59 w) (bf := (fun i => [])) [0, 1, 2, 5, 6, 7, 10, 11] [0, 1, 2, 5, 6, 7, 8, 3, 4, 9, 10, 11] (by kernel_rfl) (fun x hq => S.imm) ?_
                refine D_v E rfl rfl rfl (fun w hC => (R_move E rfl)) ?_
                clear E a; intro a E
                refine D_v E rfl rfl rfl (fun w hC => (R_fieldAddr E rfl (FA29_0 _))) ?_
                clear E a; intro a E
                refine D_v E rfl rfl rfl (fun w hC => (R_loadM E rfl Tryz.isAgg3 hC (cellM_boxo hb_60k68 rfl))) ?_
                clear E a; intro a E
                refine D_v E rfl rfl rfl (fun w hC => (R_move E rfl)) ?_
                clear E a; intro a E
                refine D_v E rfl rfl rfl (fun w hC => (R_fieldAddr E rfl (FA29_1 _))) ?_
                clear E a; intro a E
                refine D_v E rfl rfl rfl (fun w hC => (R_loadM E rfl Tryz.isAgg3 hC (cellM_boxo hb_60k68 rfl))) ?_
                clear E a; intro a E
                refine D_x rfl rfl rfl (X_buildI (ys := [x_56.2]) E S rfl T22 rfl rfl rfl ?_)
                clear E a S; rintro a w v_69 E S
                refine ⟨fun x hq hb => (agree_le (Hp.le.refl _) S.imm), ?_⟩
                refine D_x rfl rfl rfl (X_buildI (ys := [x_56.1]) E S rfl T22 rfl rfl rfl ?_)
                clear E a S; rintro a w v_70 E S
                refine ⟨fun x hq hb => (agree_le (Hp.le.refl _) S.imm), ?_⟩
                replace S := S.front2
                replace S := S.front1
                refine D_x rfl rfl rfl (X_appendB (xs := ((entE ((mkE l0).filter (fun e : Int × Int => predAt pk2 pn2 pl2 e.1 e.2))).take k).map Prod.fst) (ys := [x_56.1]) E S rfl rfl rfl T22 (by (simp only [List.length_map, List.length_cons, List.length_nil] at *; omega)) ?_)
                clear E a S; rintro a w v_71 E S
                refine ⟨fun x hq hb => (agree_le (Hp.le.refl _) S.imm), ?_⟩
                replace S := S.front2
                replace S := S.front2
                refine D_x rfl rfl rfl (X_appendB (xs := ((entE ((mkE l0).filter (fun e : Int × Int => predAt pk2 pn2 pl2 e.1 e.2))).take k).map Prod.snd) (ys := [x_56.2]) E S rfl rfl rfl T22 (by (simp only [List.length_map, List.length_cons, List.length_nil] at *; omega)) ?_)
                clear E a S; rintro a w v_72 E S
                refine ⟨fun x hq hb => (agree_le (Hp.le.refl _) S.imm), ?_⟩
                refine D_v E rfl rfl rfl (fun w hC => (R_assign E rfl)) ?_
                clear E a; intro a E
                refine D_v E rfl rfl rfl (fun w hC => (R_assign E rfl)) ?_
                clear E a; intro a E
                refine D_end (NoP_n ?_)
                refine B_n ?_
                refine T_n ?_
                refine WP_region ?_
                refine S_v E rfl (R_addx (m := ((k + 1 : Nat) : Int)) E rfl rfl (by omega) (by omega)) rfl ?_
                clear E a; intro a E
                refine S_v E rfl (R_move E rfl) rfl ?_
                clear E a; intro a E
                refine WL_nil ?_
                refine T_n ?_
                replace S := S.front1
                replace S := S.front1
                replace S := S.re1 (l' := ((entE ((mkE l0).filter (fun e : Int × Int => predAt pk2 pn2 pl2 e.1 e.2))).take (k + 1)).map Prod.snd) (by first | (simp; done) | (rw [tk_snoc (by assumption), List.map_append]; rfl))
                replace S := S.front1
                replace S := S.re1 (l' := ((entE ((mkE l0).filter (fun e : Int × Int => predAt pk2 pn2 pl2 e.1 e.2))).take (k + 1)).map Prod.fst) (by first | (simp; done) | (rw [tk_snoc (by assumption), List.map_append]; rfl))
                exact ⟨k + 1, ⟨M_59, _, _, (hM_54.trans hM_59), S, E.keep ⟨rfl, rfl, rfl, rfl, rfl, rfl, rfl, rfl, rfl, rfl, rfl, trivial⟩, by ((try clear S); (try clear E); first | assumption | omega | rfl | (simp; done) | (simp_all; done) | (simp [List.take_add_one, *]; done) | grind [List.take_add_one])⟩, by omega⟩
            · replace hc_55 := of_decide_eq_false hc_55
              refine WP_exit ?_
              refine T_x ?_
              refine T_x ?_
              refine B_x ?_
              refine T_n ?_
              refine WP_seq ?_
              refine WP_region ?_
              refine S_v E rfl (R_move E rfl) rfl ?_
              clear E a; intro a E
              refine S_v E rfl (R_loadGM E rfl (Tryz.isAgg38 _) (Tryz.sizeOf38 _) S.imm hb_1) rfl ?_
              clear E a; intro a E
              refine S_x (X_pu E S rfl rfl rfl (impl_FilterKeys h0 hw2 (by omega) (by first | omega | (simp; done) | (simp; omega) | exact Nat.le_trans (mkE_len _) (by omega))) (Hp.le.refl _) ?_)
              clear E a S; rintro a v_74 w M_73 hM_73 hv_74 S E
              replace h0 := h0.le RP2_mono hM_73
              replace h1 := h1.le RP2_mono hM_73
              replace hw2 := hw2.le hM_73
              replace hb_1 := hM_73.2 _ _ hb_1
              replace hv_7 := hv_7.le RP2_mono hM_73
              replace hv_9 := hv_9.le (RSl_mono RP2_mono) hM_73
              replace hv_12 := hv_12.le hM_73
              replace hv_14 := hv_14.le (RSl_mono RP2_mono) hM_73
              replace hv_20 := hv_20.le (RSl_mono RP2_mono) hM_73
              replace hv_23 := hv_23.le RP2_mono hM_73
              replace hv_25 := hv_25.le RP2_mono hM_73
              replace hv_26 := hv_26.le (RSl_mono RP2_mono) hM_73
              replace hv_29 := hv_29.le hM_73
              replace hv_31 := hv_31.le hM_73
              replace hv_33 := hv_33.le hM_73
              replace hv_35 := hv_35.le hM_73
              replace hv_39 := hv_39.le hM_73
              replace hv_41 := hv_41.le hM_73
              replace hv_46 := hv_46.le RP2_mono hM_73
              replace hv_48 := hv_48.le RP2_mono hM_73
              replace hv_51 := hv_51.le RP2_mono hM_73
              refine S_v E rfl (R_move E rfl) rfl ?_
              clear E a; intro a E
              have S0 := S; clear S
              obtain ⟨M_75, hM_75, hz_76, S⟩ := S0.freezeI (by (first | omega | (simp only [List.length_map] at *; omega)))
              clear S0
              replace h0 := h0.le RP2_mono hM_75
              replace h1 := h1.le RP2_mono hM_75
              replace hw2 := hw2.le hM_75
              replace hb_1 := hM_75.2 _ _ hb_1
              replace hv_7 := hv_7.le RP2_mono hM_75
              replace hv_9 := hv_9.le (RSl_mono RP2_mono) hM_75
              replace hv_12 := hv_12.le hM_75
              replace hv_14 := hv_14.le (RSl_mono RP2_mono) hM_75
              replace hv_20 := hv_20.le (RSl_mono RP2_mono) hM_75
              replace hv_23 := hv_23.le RP2_mono hM_75
              replace hv_25 := hv_25.le RP2_mono hM_75
              replace hv_26 := hv_26.le (RSl_mono RP2_mono) hM_75
              replace hv_29 := hv_29.le hM_75
              replace hv_31 := hv_31.le hM_75
              replace hv_33 := hv_33.le hM_75
              replace hv_35 := hv_35.le hM_75
              replace hv_39 := hv_39.le hM_75
              replace hv_41 := hv_41.le hM_75
              replace hv_46 := hv_46.le RP2_mono hM_75
              replace hv_48 := hv_48.le RP2_mono hM_75
              replace hv_51 := hv_51.le RP2_mono hM_75
              replace hv_74 := hv_74.le hM_75
              refine S_x (X_pu E S rfl rfl rfl (laws_eq hv_74 hz_76) (Hp.le.refl _) ?_)
              clear E a S; rintro a _ w M_77 hM_77 rfl S E
              replace h0 := h0.le RP2_mono hM_77
              replace h1 := h1.le RP2_mono hM_77
              replace hw2 := hw2.le hM_77
              replace hb_1 := hM_77.2 _ _ hb_1
              replace hv_7 := hv_7.le RP2_mono hM_77
              replace hv_9 := hv_9.le (RSl_mono RP2_mono) hM_77
              replace hv_12 := hv_12.le hM_77
              replace hv_14 := hv_14.le (RSl_mono RP2_mono) hM_77
              replace hv_20 := hv_20.le (RSl_mono RP2_mono) hM_77
              replace hv_23 := hv_23.le RP2_mono hM_77
              replace hv_25 := hv_25.le RP2_mono hM_77
              replace hv_26 := hv_26.le (RSl_mono RP2_mono) hM_77
              replace hv_29 := hv_29.le hM_77
              replace hv_31 := hv_31.le hM_77
              replace hv_33 := hv_33.le hM_77
              replace hv_35 := hv_35.le hM_77
              replace hv_39 := hv_39.le hM_77
              replace hv_41 := hv_41.le hM_77
              replace hv_46 := hv_46.le RP2_mono hM_77
              replace hv_48 := hv_48.le RP2_mono hM_77
              replace hv_51 := hv_51.le RP2_mono hM_77
              replace hv_74 := hv_74.le hM_77
              replace hz_76 := hz_76.le hM_77
              refine S_v E rfl (R_move E rfl) rfl ?_
              clear E a; intro a E
              have hc_78 : (decide (srtM (((mkE l0).filter (fun e : Int × Int => predAt pk2 pn2 pl2 e.1 e.2)).map Prod.fst) = ((entE ((mkE l0).filter (fun e : Int × Int => predAt pk2 pn2 pl2 e.1 e.2))).take k).map Prod.fst)) = true := by (clear S E; first | (simp; done) | decide | (simp only [kv_one]; decide) | (simp only [kv_len]; simp; done) | (simp only [kv_lens]; simp; done) | (simp only [set_srt, keyL_srt]; simp; done) | (first | refine dec_t ?_ | refine dec_f ?_ | skip); first | rfl | exact (set_srt _).symm | (rw [List.take_of_length_le (by omega)]; first | exact kv_fk _ _ | exact kv_fv _ _))
              replace E := E.val (t := 114) rfl hc_78
              replace E := E.val (t := 115) rfl hc_78
              refine WL_guard_yes E rfl rfl ?_
              refine S_v E rfl (R_move E rfl) rfl ?_
              clear E a; intro a E
              refine WL_guard_yes E rfl rfl ?_
              refine S_v E rfl (R_loadGM E rfl (Tryz.isAgg38 _) (Tryz.sizeOf38 _) S.imm hb_1) rfl ?_
              clear E a; intro a E
              refine WL_guard_yes E rfl rfl ?_
              refine S_x (X_pu E S rfl rfl rfl (impl_FilterValues h0 hw2 (by omega) (by first | omega | (simp; done) | (simp; omega) | exact Nat.le_trans (mkE_len _) (by omega))) (Hp.le.refl _) ?_)
              clear E a S; rintro a v_80 w M_79 hM_79 hv_80 S E
              replace h0 := h0.le RP2_mono hM_79
              replace h1 := h1.le RP2_mono hM_79
              replace hw2 := hw2.le hM_79
              replace hb_1 := hM_79.2 _ _ hb_1
              replace hv_7 := hv_7.le RP2_mono hM_79
              replace hv_9 := hv_9.le (RSl_mono RP2_mono) hM_79
              replace hv_12 := hv_12.le hM_79
              replace hv_14 := hv_14.le (RSl_mono RP2_mono) hM_79
              replace hv_20 := hv_20.le (RSl_mono RP2_mono) hM_79
              replace hv_23 := hv_23.le RP2_mono hM_79
              replace hv_25 := hv_25.le RP2_mono hM_79
              replace hv_26 := hv_26.le (RSl_mono RP2_mono) hM_79
              replace hv_29 := hv_29.le hM_79
              replace hv_31 := hv_31.le hM_79
              replace hv_33 := hv_33.le hM_79
              replace hv_35 := hv_35.le hM_79
              replace hv_39 := hv_39.le hM_79
              replace hv_41 := hv_41.le hM_79
              replace hv_46 := hv_46.le RP2_mono hM_79
              replace hv_48 := hv_48.le RP2_mono hM_79
              replace hv_51 := hv_51.le RP2_mono hM_79
              replace hv_74 := hv_74.le hM_79
              replace hz_76 := hz_76.le hM_79
              refine WL_guard_yes E rfl rfl ?_
              refine S_v E rfl (R_move E rfl) rfl ?_
              clear E a; intro a E
              have S0 := S; clear S
              obtain ⟨M_81, hM_81, hz_82, S⟩ := S0.freezeI (by (first | omega | (simp only [List.length_map] at *; omega)))
              clear S0
              replace h0 := h0.le RP2_mono hM_81
              replace h1 := h1.le RP2_mono hM_81
              replace hw2 := hw2.le hM_81
              replace hb_1 := hM_81.2 _ _ hb_1
              replace hv_7 := hv_7.le RP2_mono hM_81
              replace hv_9 := hv_9.le (RSl_mono RP2_mono) hM_81
              replace hv_12 := hv_12.le hM_81
              replace hv_14 := hv_14.le (RSl_mono RP2_mono) hM_81
              replace hv_20 := hv_20.le (RSl_mono RP2_mono) hM_81
              replace hv_23 := hv_23.le RP2_mono hM_81
              replace hv_25 := hv_25.le RP2_mono hM_81
              replace hv_26 := hv_26.le (RSl_mono RP2_mono) hM_81
              replace hv_29 := hv_29.le hM_81
              replace hv_31 := hv_31.le hM_81
              replace hv_33 := hv_33.le hM_81
              replace hv_35 := hv_35.le hM_81
              replace hv_39 := hv_39.le hM_81
              replace hv_41 := hv_41.le hM_81
              replace hv_46 := hv_46.le RP2_mono hM_81
              replace hv_48 := hv_48.le RP2_mono hM_81
              replace hv_51 := hv_51.le RP2_mono hM_81
              replace hv_74 := hv_74.le hM_81
              replace hz_76 := hz_76.le hM_81
              replace hv_80 := hv_80.le hM_81
              refine WL_guard_yes E rfl rfl ?_
              refine S_x (X_pu E S rfl rfl rfl (laws_same hv_80 hz_82) (Hp.le.refl _) ?_)
              clear E a S; rintro a _ w M_83 hM_83 rfl S E
              replace h0 := h0.le RP2_mono hM_83
              replace h1 := h1.le RP2_mono hM_83
              replace hw2 := hw2.le hM_83
              replace hb_1 := hM_83.2 _ _ hb_1
              replace hv_7 := hv_7.le RP2_mono hM_83
              replace hv_9 := hv_9.le (RSl_mono RP2_mono) hM_83
              replace hv_12 := hv_12.le hM_83
              replace hv_14 := hv_14.le (RSl_mono RP2_mono) hM_83
              replace hv_20 := hv_20.le (RSl_mono RP2_mono) hM_83
              replace hv_23 := hv_23.le RP2_mono hM_83
              replace hv_25 := hv_25.le RP2_mono hM_83
              replace hv_26 := hv_26.le (RSl_mono RP2_mono) hM_83
              replace hv_29 := hv_29.le hM_83
              replace hv_31 := hv_31.le hM_83
              replace hv_33 := hv_33.le hM_83
              replace hv_35 := hv_35.le hM_83
              replace hv_39 := hv_39.le hM_83
              replace hv_41 := hv_41.le hM_83
              replace hv_46 := hv_46.le RP2_mono hM_83
              replace hv_48 := hv_48.le RP2_mono hM_83
              replace hv_51 := hv_51.le RP2_mono hM_83
              replace hv_74 := hv_74.le hM_83
              replace hz_76 := hz_76.le hM_83
              replace hv_80 := hv_80.le hM_83
              replace hz_82 := hz_82.le hM_83
              refine S_v E rfl (R_pickT E rfl rfl) rfl ?_
              clear E a; intro a E
              refine S_v E rfl (R_move E rfl) rfl ?_
              clear E a; intro a E
              have hc_84 : (decide ((srtM (((mkE l0).filter (fun e : Int × Int => predAt pk2 pn2 pl2 e.1 e.2)).map Prod.snd)).length = (((entE ((mkE l0).filter (fun e : Int × Int => predAt pk2 pn2 pl2 e.1 e.2))).take k).map Prod.snd).length ∧ ∀ x ∈ srtM (((mkE l0).filter (fun e : Int × Int => predAt pk2 pn2 pl2 e.1 e.2)).map Prod.snd), (srtM (((mkE l0).filter (fun e : Int × Int => predAt pk2 pn2 pl2 e.1 e.2)).map Prod.snd)).count x = (((entE ((mkE l0).filter (fun e : Int × Int => predAt pk2 pn2 pl2 e.1 e.2))).take k).map Prod.snd).count x)) = true := by (clear S E; first | (simp; done) | decide | (simp only [kv_one]; decide) | (simp only [kv_len]; simp; done) | (simp only [kv_lens]; simp; done) | (simp only [set_srt, keyL_srt]; simp; done) | (first | refine dec_t ?_ | refine dec_f ?_ | skip); first | rfl | exact (set_srt _).symm | (rw [List.take_of_length_le (by omega)]; first | exact kv_fk _ _ | exact kv_fv _ _))
              replace E := E.val (t := 120) rfl hc_84
              replace E := E.val (t := 121) rfl hc_84
              replace E := E.val (t := 122) rfl hc_84
              refine WL_guard_yes E rfl rfl ?_
              refine S_v E rfl (R_move E rfl) rfl ?_
              clear E a; intro a E
              refine WL_guard_yes E rfl rfl ?_
              refine S_v E rfl (R_move E rfl) rfl ?_
              clear E a; intro a E
              refine WL_guard_yes E rfl rfl ?_
              refine S_x (X_pu E S rfl rfl rfl (spec_Keys hv_26 (by first | omega | (simp; done) | (simp; omega)) (by first | omega | (simp; done) | (simp; omega))) (Hp.le.refl _) ?_)
              clear E a S; rintro a v_86 w M_85 hM_85 hv_86 S E
              replace h0 := h0.le RP2_mono hM_85
              replace h1 := h1.le RP2_mono hM_85
              replace hw2 := hw2.le hM_85
              replace hb_1 := hM_85.2 _ _ hb_1
              replace hv_7 := hv_7.le RP2_mono hM_85
              replace hv_9 := hv_9.le (RSl_mono RP2_mono) hM_85
              replace hv_12 := hv_12.le hM_85
              replace hv_14 := hv_14.le (RSl_mono RP2_mono) hM_85
              replace hv_20 := hv_20.le (RSl_mono RP2_mono) hM_85
              replace hv_23 := hv_23.le RP2_mono hM_85
              replace hv_25 := hv_25.le RP2_mono hM_85
              replace hv_26 := hv_26.le (RSl_mono RP2_mono) hM_85
              replace hv_29 := hv_29.le hM_85
              replace hv_31 := hv_31.le hM_85
              replace hv_33 := hv_33.le hM_85
              replace hv_35 := hv_35.le hM_85
              replace hv_39 := hv_39.le hM_85
              replace hv_41 := hv_41.le hM_85
              replace hv_46 := hv_46.le RP2_mono hM_85
              replace hv_48 := hv_48.le RP2_mono hM_85
              replace hv_51 := hv_51.le RP2_mono hM_85
              replace hv_74 := hv_74.le hM_85
              replace hz_76 := hz_76.le hM_85
              replace hv_80 := hv_80.le hM_85
              replace hz_82 := hz_82.le hM_85
              refine WL_guard_yes E rfl rfl ?_
              refine S_x (X_pu E S rfl rfl rfl (laws_eq hv_29 hv_86) (Hp.le.refl _) ?_)
              clear E a S; rintro a _ w M_87 hM_87 rfl S E
              replace h0 := h0.le RP2_mono hM_87
              replace h1 := h1.le RP2_mono hM_87
              replace hw2 := hw2.le hM_87
              replace hb_1 := hM_87.2 _ _ hb_1
              replace hv_7 := hv_7.le RP2_mono hM_87
              replace hv_9 := hv_9.le (RSl_mono RP2_mono) hM_87
              replace hv_12 := hv_12.le hM_87
              replace hv_14 := hv_14.le (RSl_mono RP2_mono) hM_87
              replace hv_20 := hv_20.le (RSl_mono RP2_mono) hM_87
              replace hv_23 := hv_23.le RP2_mono hM_87
              replace hv_25 := hv_25.le RP2_mono hM_87
              replace hv_26 := hv_26.le (RSl_mono RP2_mono) hM_87
              replace hv_29 := hv_29.le hM_87
              replace hv_31 := hv_31.le hM_87
              replace hv_33 := hv_33.le hM_87
              replace hv_35 := hv_35.le hM_87
              replace hv_39 := hv_39.le hM_87
              replace hv_41 := hv_41.le hM_87
              replace hv_46 := hv_46.le RP2_mono hM_87
              replace hv_48 := hv_48.le RP2_mono hM_87
              replace hv_51 := hv_51.le RP2_mono hM_87
              replace hv_74 := hv_74.le hM_87
              replace hz_76 := hz_76.le hM_87
              replace hv_80 := hv_80.le hM_87
              replace hz_82 := hz_82.le hM_87
              replace hv_86 := hv_86.le hM_87
              refine S_v E rfl (R_pickT E rfl rfl) rfl ?_
              clear E a; intro a E
              refine S_v E rfl (R_move E rfl) rfl ?_
              clear E a; intro a E
              have hc_88 : (decide (srtM (keysM [l0, l1]) = srtM (keysM [l0, l1]))) = true := by (clear S E; first | (simp; done) | decide | (simp only [kv_one]; decide) | (simp only [kv_len]; simp; done) | (simp only [kv_lens]; simp; done) | (simp only [set_srt, keyL_srt]; simp; done) | (first | refine dec_t ?_ | refine dec_f ?_ | skip); first | rfl | exact (set_srt _).symm | (rw [List.take_of_length_le (by omega)]; first | exact kv_fk _ _ | exact kv_fv _ _))
              replace E := E.val (t := 126) rfl hc_88
              replace E := E.val (t := 127) rfl hc_88
              replace E := E.val (t := 128) rfl hc_88
              refine WL_guard_yes E rfl rfl ?_
              refine S_v E rfl (R_move E rfl) rfl ?_
              clear E a; intro a E
              refine WL_guard_yes E rfl rfl ?_
              refine S_v E rfl (R_move E rfl) rfl ?_
              clear E a; intro a E
              refine WL_guard_yes E rfl rfl ?_
              refine S_x (X_pu E S rfl rfl rfl (spec_MapItems hv_26 (by first | omega | (simp; done) | (simp; omega)) (by first | omega | (simp; done) | (simp; omega))) (Hp.le.refl _) ?_)
              clear E a S; rintro a v_90 w M_89 hM_89 hv_90 S E
              replace h0 := h0.le RP2_mono hM_89
              replace h1 := h1.le RP2_mono hM_89
              replace hw2 := hw2.le hM_89
              replace hb_1 := hM_89.2 _ _ hb_1
              replace hv_7 := hv_7.le RP2_mono hM_89
              replace hv_9 := hv_9.le (RSl_mono RP2_mono) hM_89
              replace hv_12 := hv_12.le hM_89
              replace hv_14 := hv_14.le (RSl_mono RP2_mono) hM_89
              replace hv_20 := hv_20.le (RSl_mono RP2_mono) hM_89
              replace hv_23 := hv_23.le RP2_mono hM_89
              replace hv_25 := hv_25.le RP2_mono hM_89
              replace hv_26 := hv_26.le (RSl_mono RP2_mono) hM_89
              replace hv_29 := hv_29.le hM_89
              replace hv_31 := hv_31.le hM_89
              replace hv_33 := hv_33.le hM_89
              replace hv_35 := hv_35.le hM_89
              replace hv_39 := hv_39.le hM_89
              replace hv_41 := hv_41.le hM_89
              replace hv_46 := hv_46.le RP2_mono hM_89
              replace hv_48 := hv_48.le RP2_mono hM_89
              replace hv_51 := hv_51.le RP2_mono hM_89
              replace hv_74 := hv_74.le hM_89
              replace hz_76 := hz_76.le hM_89
              replace hv_80 := hv_80.le hM_89
              replace hz_82 := hz_82.le hM_89
              replace hv_86 := hv_86.le hM_89
              refine WL_guard_yes E rfl rfl ?_
              refine S_x (X_pu E S rfl rfl rfl (laws_eq hv_31 hv_90) (Hp.le.refl _) ?_)
              clear E a S; rintro a _ w M_91 hM_91 rfl S E
              replace h0 := h0.le RP2_mono hM_91
              replace h1 := h1.le RP2_mono hM_91
              replace hw2 := hw2.le hM_91
              replace hb_1 := hM_91.2 _ _ hb_1
              replace hv_7 := hv_7.le RP2_mono hM_91
              replace hv_9 := hv_9.le (RSl_mono RP2_mono) hM_91
              replace hv_12 := hv_12.le hM_91
              replace hv_14 := hv_14.le (RSl_mono RP2_mono) hM_91
              replace hv_20 := hv_20.le (RSl_mono RP2_mono) hM_91
              replace hv_23 := hv_23.le RP2_mono hM_91
              replace hv_25 := hv_25.le RP2_mono hM_91
              replace hv_26 := hv_26.le (RSl_mono RP2_mono) hM_91
              replace hv_29 := hv_29.le hM_91
              replace hv_31 := hv_31.le hM_91
              replace hv_33 := hv_33.le hM_91
              replace hv_35 := hv_35.le hM_91
              replace hv_39 := hv_39.le hM_91
              replace hv_41 := hv_41.le hM_91
              replace hv_46 := hv_46.le RP2_mono hM_91
              replace hv_48 := hv_48.le RP2_mono hM_91
              replace hv_51 := hv_51.le RP2_mono hM_91
              replace hv_74 := hv_74.le hM_91
              replace hz_76 := hz_76.le hM_91
              replace hv_80 := hv_80.le hM_91
              replace hz_82 := hz_82.le hM_91
              replace hv_86 := hv_86.le hM_91
              replace hv_90 := hv_90.le hM_91
              refine S_v E rfl (R_pickT E rfl rfl) rfl ?_
              clear E a; intro a E
              refine S_v E rfl (R_move E rfl) rfl ?_
              clear E a; intro a E
              have hc_92 : (decide (srtM (valsM [l0, l1]) = srtM (valsM [l0, l1]))) = true := by (clear S E; first | (simp; done) | decide | (simp only [kv_one]; decide) | (simp only [kv_len]; simp; done) | (simp only [kv_lens]; simp; done) | (simp only [set_srt, keyL_srt]; simp; done) | (first | refine dec_t ?_ | refine dec_f ?_ | skip); first | rfl | exact (set_srt _).symm | (rw [List.take_of_length_le (by omega)]; first | exact kv_fk _ _ | exact kv_fv _ _))
              replace E := E.val (t := 132) rfl hc_92
              replace E := E.val (t := 133) rfl hc_92
              replace E := E.val (t := 134) rfl hc_92
              refine WL_guard_yes E rfl rfl ?_
              refine S_v E rfl (R_move E rfl) rfl ?_
              clear E a; intro a E
              refine WL_guard_yes E rfl rfl ?_
              refine S_x (X_pu E S rfl rfl rfl (impl_UniqKeys hv_20 (by first | omega | (simp; done) | (simp; omega)) (by first | omega | (simp; done) | (simp; omega))) (Hp.le.refl _) ?_)
              clear E a S; rintro a v_94 w M_93 hM_93 hv_94 S E
              replace h0 := h0.le RP2_mono hM_93
              replace h1 := h1.le RP2_mono hM_93
              replace hw2 := hw2.le hM_93
              replace hb_1 := hM_93.2 _ _ hb_1
              replace hv_7 := hv_7.le RP2_mono hM_93
              replace hv_9 := hv_9.le (RSl_mono RP2_mono) hM_93
              replace hv_12 := hv_12.le hM_93
              replace hv_14 := hv_14.le (RSl_mono RP2_mono) hM_93
              replace hv_20 := hv_20.le (RSl_mono RP2_mono) hM_93
              replace hv_23 := hv_23.le RP2_mono hM_93
              replace hv_25 := hv_25.le RP2_mono hM_93
              replace hv_26 := hv_26.le (RSl_mono RP2_mono) hM_93
              replace hv_29 := hv_29.le hM_93
              replace hv_31 := hv_31.le hM_93
              replace hv_33 := hv_33.le hM_93
              replace hv_35 := hv_35.le hM_93
              replace hv_39 := hv_39.le hM_93
              replace hv_41 := hv_41.le hM_93
              replace hv_46 := hv_46.le RP2_mono hM_93
              replace hv_48 := hv_48.le RP2_mono hM_93
              replace hv_51 := hv_51.le RP2_mono hM_93
              replace hv_74 := hv_74.le hM_93
              replace hz_76 := hz_76.le hM_93
              replace hv_80 := hv_80.le hM_93
              replace hz_82 := hz_82.le hM_93
              replace hv_86 := hv_86.le hM_93
              replace hv_90 := hv_90.le hM_93
              refine WL_guard_yes E rfl rfl ?_
              refine S_v E rfl (R_move E rfl) rfl ?_
              clear E a; intro a E
              refine WL_guard_yes E rfl rfl ?_
              refine S_x (X_pu E S rfl rfl rfl (spec_UniqKeys hv_26 (by first | omega | (simp; done) | (simp; omega)) (by first | omega | (simp; done) | (simp; omega)) (by first | assumption | (intro l hl; simp only [List.mem_cons, List.not_mem_nil, or_false] at hl; rcases hl with rfl | rfl <;> assumption))) (Hp.le.refl _) ?_)
              clear E a S; rintro a v_96 w M_95 hM_95 hv_96 S E
              replace h0 := h0.le RP2_mono hM_95
              replace h1 := h1.le RP2_mono hM_95
              replace hw2 := hw2.le hM_95
              replace hb_1 := hM_95.2 _ _ hb_1
              replace hv_7 := hv_7.le RP2_mono hM_95
              replace hv_9 := hv_9.le (RSl_mono RP2_mono) hM_95
              replace hv_12 := hv_12.le hM_95
              replace hv_14 := hv_14.le (RSl_mono RP2_mono) hM_95
              replace hv_20 := hv_20.le (RSl_mono RP2_mono) hM_95
              replace hv_23 := hv_23.le RP2_mono hM_95
              replace hv_25 := hv_25.le RP2_mono hM_95
              replace hv_26 := hv_26.le (RSl_mono RP2_mono) hM_95
              replace hv_29 := hv_29.le hM_95
              replace hv_31 := hv_31.le hM_95
              replace hv_33 := hv_33.le hM_95
              replace hv_35 := hv_35.le hM_95
              replace hv_39 := hv_39.le hM_95
              replace hv_41 := hv_41.le hM_95
              replace hv_46 := hv_46.le RP2_mono hM_95
              replace hv_48 := hv_48.le RP2_mono hM_95
              replace hv_51 := hv_51.le RP2_mono hM_95
              replace hv_74 := hv_74.le hM_95
              replace hz_76 := hz_76.le hM_95
              replace hv_80 := hv_80.le hM_95
              replace hz_82 := hz_82.le hM_95
              replace hv_86 := hv_86.le hM_95
              replace hv_90 := hv_90.le hM_95
              replace hv_94 := hv_94.le hM_95
              refine WL_guard_yes E rfl rfl ?_
              refine S_x (X_pu E S rfl rfl rfl (laws_eq hv_94 hv_96) (Hp.le.refl _) ?_)
              clear E a S; rintro a _ w M_97 hM_97 rfl S E
              replace h0 := h0.le RP2_mono hM_97
              replace h1 := h1.le RP2_mono hM_97
              replace hw2 := hw2.le hM_97
              replace hb_1 := hM_97.2 _ _ hb_1
              replace hv_7 := hv_7.le RP2_mono hM_97
              replace hv_9 := hv_9.le (RSl_mono RP2_mono) hM_97
              replace hv_12 := hv_12.le hM_97
              replace hv_14 := hv_14.le (RSl_mono RP2_mono) hM_97
              replace hv_20 := hv_20.le (RSl_mono RP2_mono) hM_97
              replace hv_23 := hv_23.le RP2_mono hM_97
              replace hv_25 := hv_25.le RP2_mono hM_97
              replace hv_26 := hv_26.le (RSl_mono RP2_mono) hM_97
              replace hv_29 := hv_29.le hM_97
              replace hv_31 := hv_31.le hM_97
              replace hv_33 := hv_33.le hM_97
              replace hv_35 := hv_35.le hM_97
              replace hv_39 := hv_39.le hM_97
              replace hv_41 := hv_41.le hM_97
              replace hv_46 := hv_46.le RP2_mono hM_97
              replace hv_48 := hv_48.le RP2_mono hM_97
              replace hv_51 := hv_51.le RP2_mono hM_97
              replace hv_74 := hv_74.le hM_97
              replace hz_76 := hz_76.le hM_97
              replace hv_80 := hv_80.le hM_97
              replace hz_82 := hz_82.le hM_97
              replace hv_86 := hv_86.le hM_97
              replace hv_90 := hv_90.le hM_97
              replace hv_94 := hv_94.le hM_97
              replace hv_96 := hv_96.le hM_97
              refine S_v E rfl (R_pickT E rfl rfl) rfl ?_
              clear E a; intro a E
              refine S_v E rfl (R_move E rfl) rfl ?_
              clear E a; intro a E
              have hc_98 : (decide (setI (keysM [l0, l1]) = setI (keysM [l0, l1]))) = true := by (clear S E; first | (simp; done) | decide | (simp only [kv_one]; decide) | (simp only [kv_len]; simp; done) | (simp only [kv_lens]; simp; done) | (simp only [set_srt, keyL_srt]; simp; done) | (first | refine dec_t ?_ | refine dec_f ?_ | skip); first | rfl | exact (set_srt _).symm | (rw [List.take_of_length_le (by omega)]; first | exact kv_fk _ _ | exact kv_fv _ _))
              replace E := E.val (t := 139) rfl hc_98
              replace E := E.val (t := 140) rfl hc_98
              replace E := E.val (t := 141) rfl hc_98
              refine WL_guard_yes E rfl rfl ?_
              refine S_v E rfl (R_move E rfl) rfl ?_
              clear E a; intro a E
              refine WL_guard_yes E rfl rfl ?_
              refine S_x (X_pu E S rfl rfl rfl (impl_UniqValues hv_20 (by first | omega | (simp; done) | (simp; omega)) (by first | omega | (simp; done) | (simp; omega))) (Hp.le.refl _) ?_)
              clear E a S; rintro a v_100 w M_99 hM_99 hv_100 S E
              replace h0 := h0.le RP2_mono hM_99
              replace h1 := h1.le RP2_mono hM_99
              replace hw2 := hw2.le hM_99
              replace hb_1 := hM_99.2 _ _ hb_1
              replace hv_7 := hv_7.le RP2_mono hM_99
              replace hv_9 := hv_9.le (RSl_mono RP2_mono) hM_99
              replace hv_12 := hv_12.le hM_99
              replace hv_14 := hv_14.le (RSl_mono RP2_mono) hM_99
              replace hv_20 := hv_20.le (RSl_mono RP2_mono) hM_99
              replace hv_23 := hv_23.le RP2_mono hM_99
              replace hv_25 := hv_25.le RP2_mono hM_99
              replace hv_26 := hv_26.le (RSl_mono RP2_mono) hM_99
              replace hv_29 := hv_29.le hM_99
              replace hv_31 := hv_31.le hM_99
              replace hv_33 := hv_33.le hM_99
              replace hv_35 := hv_35.le hM_99
              replace hv_39 := hv_39.le hM_99
              replace hv_41 := hv_41.le hM_99
              replace hv_46 := hv_46.le RP2_mono hM_99
              replace hv_48 := hv_48.le RP2_mono hM_99
              replace hv_51 := hv_51.le RP2_mono hM_99
              replace hv_74 := hv_74.le hM_99
              replace hz_76 := hz_76.le hM_99
              replace hv_80 := hv_80.le hM_99
              replace hz_82 := hz_82.le hM_99
              replace hv_86 := hv_86.le hM_99
              replace hv_90 := hv_90.le hM_99
              replace hv_94 := hv_94.le hM_99
              replace hv_96 := hv_96.le hM_99
              refine WL_guard_yes E rfl rfl ?_
              refine S_v E rfl (R_move E rfl) rfl ?_
              clear E a; intro a E
              refine WL_guard_yes E rfl rfl ?_
              refine S_x (X_pu E S rfl rfl rfl (spec_UniqValues hv_26 (by first | omega | (simp; done) | (simp; omega)) (by first | omega | (simp; done) | (simp; omega)) (by first | assumption | (intro l hl; simp only [List.mem_cons, List.not_mem_nil, or_false] at hl; rcases hl with rfl | rfl <;> assumption))) (Hp.le.refl _) ?_)
              clear E a S; rintro a v_102 w M_101 hM_101 hv_102 S E
              replace h0 := h0.le RP2_mono hM_101
              replace h1 := h1.le RP2_mono hM_101
              replace hw2 := hw2.le hM_101
              replace hb_1 := hM_101.2 _ _ hb_1
              replace hv_7 := hv_7.le RP2_mono hM_101
              replace hv_9 := hv_9.le (RSl_mono RP2_mono) hM_101
              replace hv_12 := hv_12.le hM_101
              replace hv_14 := hv_14.le (RSl_mono RP2_mono) hM_101
              replace hv_20 := hv_20.le (RSl_mono RP2_mono) hM_101
              replace hv_23 := hv_23.le RP2_mono hM_101
              replace hv_25 := hv_25.le RP2_mono hM_101
              replace hv_26 := hv_26.le (RSl_mono RP2_mono) hM_101
              replace hv_29 := hv_29.le hM_101
              replace hv_31 := hv_31.le hM_101
              replace hv_33 := hv_33.le hM_101
              replace hv_35 := hv_35.le hM_101
              replace hv_39 := hv_39.le hM_101
              replace hv_41 := hv_41.le hM_101
              replace hv_46 := hv_46.le RP2_mono hM_101
              replace hv_48 := hv_48.le RP2_mono hM_101
              replace hv_51 := hv_51.le RP2_mono hM_101
              replace hv_74 := hv_74.le hM_101
              replace hz_76 := hz_76.le hM_101
              replace hv_80 := hv_80.le hM_101
              replace hz_82 := hz_82.le hM_101
              replace hv_86 := hv_86.le hM_101
              replace hv_90 := hv_90.le hM_101
              replace hv_94 := hv_94.le hM_101
              replace hv_96 := hv_96.le hM_101
              replace hv_100 := hv_100.le hM_101
              refine WL_guard_yes E rfl rfl ?_
              refine S_x (X_pu E S rfl rfl rfl (laws_eq hv_100 hv_102) (Hp.le.refl _) ?_)
              clear E a S; rintro a _ w M_103 hM_103 rfl S E
              replace h0 := h0.le RP2_mono hM_103
              replace h1 := h1.le RP2_mono hM_103
              replace hw2 := hw2.le hM_103
              replace hb_1 := hM_103.2 _ _ hb_1
              replace hv_7 := hv_7.le RP2_mono hM_103
              replace hv_9 := hv_9.le (RSl_mono RP2_mono) hM_103
              replace hv_12 := hv_12.le hM_103
              replace hv_14 := hv_14.le (RSl_mono RP2_mono) hM_103
              replace hv_20 := hv_20.le (RSl_mono RP2_mono) hM_103
              replace hv_23 := hv_23.le RP2_mono hM_103
              replace hv_25 := hv_25.le RP2_mono hM_103
              replace hv_26 := hv_26.le (RSl_mono RP2_mono) hM_103
              replace hv_29 := hv_29.le hM_103
              replace hv_31 := hv_31.le hM_103
              replace hv_33 := hv_33.le hM_103
              replace hv_35 := hv_35.le hM_103
              replace hv_39 := hv_39.le hM_103
              replace hv_41 := hv_41.le hM_103
              replace hv_46 := hv_46.le RP2_mono hM_103
              replace hv_48 := hv_48.le RP2_mono hM_103
              replace hv_51 := hv_51.le RP2_mono hM_103
              replace hv_74 := hv_74.le hM_103
              replace hz_76 := hz_76.le hM_103
              replace hv_80 := hv_80.le hM_103
              replace hz_82 := hz_82.le hM_103
              replace hv_86 := hv_86.le hM_103
              replace hv_90 := hv_90.le hM_103
              replace hv_94 := hv_94.le hM_103
              replace hv_96 := hv_96.le hM_103
              replace hv_100 := hv_100.le hM_103
              replace hv_102 := hv_102.le hM_103
              refine S_v E rfl (R_pickT E rfl rfl) rfl ?_
              clear E a; intro a E
              refine S_v E rfl (R_assign E rfl) rfl ?_
              clear E a; intro a E
              refine WL_nil ?_
              refine T_n ?_
              refine WP_ret ?_
              exact F_ret1 E Tryz.results4 rfl ⟨_, rfl, M_103, (hM_2.trans (hM_5.trans (hM_8.trans (hM_10.trans (hM_11.trans (hM_15.trans (hM_16.trans (hM_18.trans (hM_21.trans (hM_22.trans (hM_24.trans (hM_27.trans (hM_28.trans (hM_30.trans (hM_32.trans (hM_34.trans (hM_36.trans (hM_38.trans (hM_40.trans (hM_42.trans (hM_45.trans (hM_47.trans (hM_50.trans (hM_54.trans (hM_73.trans (hM_75.trans (hM_77.trans (hM_79.trans (hM_81.trans (hM_83.trans (hM_85.trans (hM_87.trans (hM_89.trans (hM_91.trans (hM_93.trans (hM_95.trans (hM_97.trans (hM_99.trans (hM_101.trans hM_103))))))))))))))))))))))))))))))))))))))), (congrArg Value.bool (by (clear S E; first | (simp; done) | decide | (simp only [kv_one]; decide) | (simp only [kv_len]; simp; done) | (simp only [kv_lens]; simp; done) | (simp only [set_srt, keyL_srt]; simp; done) | (first | refine dec_t ?_ | refine dec_f ?_ | skip); first | rfl | exact (set_srt _).symm | (rw [List.take_of_length_le (by omega)]; first | exact kv_fk _ _ | exact kv_fv _ _)))), S⟩

end Go.Proofs.YtahbobhbookehaaGreat.wFnKeysValues
