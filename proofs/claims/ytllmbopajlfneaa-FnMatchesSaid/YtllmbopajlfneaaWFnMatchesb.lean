/- Walks through the functions that laws.FnMatches reaches: what each computes; no conditions beyond what each theorem states. -/
import Derived.Test.YtllmbopajlfneaaWFnMatchesa
set_option linter.unusedVariables false
set_option linter.unusedSimpArgs false
namespace Go.Proofs.Ytllmbopajlfneaa.wFnMatches
open Go Go.Sl
set_option maxRecDepth 100000 in
set_option maxHeartbeats 4000000 in
theorem spec_Sorted {M : Hp} {v0 : Value} {l0 : List Int} (h0 : RdI M v0 l0) (hb : l0.length ≤ 1000000000000) :
    Pu Try.prog (.func (.func 176) #[] #[]) M [v0] (fun r M' => RdI M' r (sortI l0)) := by
  refine Pu_enter Try.func176 rfl Try.ntmps176 rfl Try.call176 ?_
  intro a w M1 H hM1 S E
  replace h0 := h0.le hM1
  have b0 := h0.bound
  refine WP_seq ?_
  refine WP_region ?_
  refine S_v E rfl (R_assign E rfl) rfl ?_
  clear E a; intro a E
  refine WL_nil ?_
  refine T_n ?_
  refine WP_seq ?_
  refine WP_region ?_
  refine S_v E rfl (R_assign E rfl) rfl ?_
  clear E a; intro a E
  refine WL_nil ?_
  refine T_n ?_
  refine WP_seq ?_
  refine WP_seq ?_
  refine WP_region ?_
  refine S_v E rfl (R_move E rfl) rfl ?_
  clear E a; intro a E
  refine S_v E rfl (R_lenV E rfl T22 h0.len) rfl ?_
  clear E a; intro a E
  refine S_v E rfl (R_move E rfl) rfl ?_
  clear E a; intro a E
  refine WL_nil ?_
  refine T_n ?_
  refine WP_block ?_
  replace S := (S.ownNil (e := 3) (sz := 1)).made0
  replace S := S.re1 (l' := sortI (l0.take 0)) (by first | (simp [sortI]; done) | (rw [sortI_take (by assumption), ← ins_at (j := j) (by omega) (by intro y hy; have h9 := hL1_1 y hy; rw [show l0[k]? = some _ by assumption] at h9; exact h9) (by first | (left; omega) | (right; exact ⟨_, by assumption, by assumption⟩))]; done) | (rw [sortI_take (by assumption), ← ins_at (j := j) (by omega) (by intro y hy; have h9 := hL1_1 y hy; rw [show l0[k]? = some _ by assumption] at h9; exact h9) (by first | (left; omega) | (right; exact ⟨_, by assumption, by assumption⟩))]; simp; done))
  refine WP_loop (γ := Nat) (fun (k : Nat) a w => ∃ (M_2 : Hp) (u3 : Value), Hp.le M1 M_2 ∧ St w M_2 (OwnI 3 u3 (sortI (l0.take k)) :: H) ∧ Env a 41 [] [(3, u3), (7, v0), (8, .int .i64 (((l0).length : Nat) : Int)), (9, .int .i64 ((k : Nat) : Int))] ∧ (k ≤ (l0).length)) (fun k => ((l0).length) - k) 0 ⟨M1, _, Hp.le.refl _, S, E.keep ⟨rfl, rfl, rfl, rfl, trivial⟩, by ((try clear S); (try clear E); first | assumption | omega | rfl | (simp; done) | (simp_all; done) | (simp [List.take_add_one, *]; done) | grind [List.take_add_one])⟩ ?_
  try clear E
  try clear S
  try clear a
  try clear w
  rintro k a w ⟨M_2, u3, hM_2, S, E, hL0_0⟩
  replace h0 := h0.le hM_2
  have hsl := sortI_len (l0.take k); simp only [List.length_take] at hsl
  refine WP_seq ?_
  refine WP_region ?_
  refine S_v E rfl (R_lss E rfl rfl) rfl ?_
  clear E a; intro a E
  refine WL_nil ?_
  refine T_n ?_
  refine WP_seq ?_
  refine WP_cond E rfl (fun hc_3 => ?_) (fun hc_3 => ?_)
  · replace hc_3 := of_decide_eq_true hc_3
    refine WP_skip ?_
    refine T_n ?_
    refine WP_seq ?_
    refine WP_block ?_
    refine WP_seq ?_
    refine WP_region ?_
    obtain ⟨x_4, hx_4⟩ : ∃ x, (l0)[k]? = some x := ⟨_, List.getElem?_eq_getElem (by first | omega | (simp; done) | (simp; omega) | (simp_all; omega))⟩
    obtain ⟨p_5, hp_5, qp_5⟩ := h0.at hx_4
    refine S_v E rfl (R_idx E rfl rfl T22 hp_5 rfl) rfl ?_
    clear E a; intro a E
    refine S_v E rfl (R_loadM E rfl Try.isAgg3 S.imm qp_5) rfl ?_
    clear E a; intro a E
    refine S_v E rfl (R_assign E rfl) rfl ?_
    clear E a; intro a E
    refine WL_nil ?_
    refine T_n ?_
    refine WP_seq ?_
    refine WP_region ?_
    refine S_v E rfl (R_assign E rfl) rfl ?_
    clear E a; intro a E
    refine WL_nil ?_
    refine T_n ?_
    refine WP_seq ?_
    refine WP_block ?_
    refine WP_loop (γ := Nat) (fun (j : Nat) a w => ∃ (M_6 : Hp), Hp.le M_2 M_6 ∧ St w M_6 (OwnI 3 u3 (sortI (l0.take k)) :: H) ∧ Env a 41 [] [(3, u3), (5, .int .i64 x_4), (6, .int .i64 ((j : Nat) : Int)), (7, v0), (8, .int .i64 (((l0).length : Nat) : Int)), (9, .int .i64 ((k : Nat) : Int))] ∧ (j ≤ (sortI (l0.take k)).length) ∧ (∀ y ∈ (sortI (l0.take k)).take j, y ≤ (l0[k]?.getD 0))) (fun j => (sortI (l0.take k)).length - j) 0 ⟨M_2, Hp.le.refl _, S, E.keep ⟨rfl, rfl, rfl, rfl, rfl, rfl, trivial⟩, (by omega), (by simp)⟩ ?_
    try clear E
    try clear S
    try clear a
    try clear w
    rintro j a w ⟨M_6, hM_6, S, E, hL1_0, hL1_1⟩
    replace h0 := h0.le hM_6
    refine WP_seq ?_
    refine WP_seq ?_
    refine WP_region ?_
    refine S_v E rfl (R_move E rfl) rfl ?_
    clear E a; intro a E
    refine S_v E rfl (R_move E rfl) rfl ?_
    clear E a; intro a E
    refine S_v E rfl (R_lenV E rfl T22 S.lenC) rfl ?_
    clear E a; intro a E
    refine S_v E rfl (R_lss E rfl rfl) rfl ?_
    clear E a; intro a E
    refine S_v E rfl (R_move E rfl) rfl ?_
    clear E a; intro a E
    refine split_bool (decide (((j : Nat) : Int) < (((sortI (l0.take k)).length : Nat) : Int))) (fun hc_7 => ?_) (fun hc_7 => ?_)
    · replace E := E.val (t := 16) rfl hc_7
      replace E := E.val (t := 17) rfl hc_7
      replace hc_7 := of_decide_eq_true hc_7
      refine WL_guard_yes E rfl rfl ?_
      refine S_v E rfl (R_move E rfl) rfl ?_
      clear E a; intro a E
      refine WL_guard_yes E rfl rfl ?_
      refine S_v E rfl (R_move E rfl) rfl ?_
      clear E a; intro a E
      obtain ⟨p_8, hp_8⟩ := S.ptrC (k := j) (by first | omega | (simp; done) | (simp; omega) | (simp_all; omega))
      refine WL_guard_yes E rfl rfl ?_
      refine S_v E rfl (R_idx E rfl rfl T22 hp_8 rfl) rfl ?_
      clear E a; intro a E
      obtain ⟨x_9, hx_9⟩ : ∃ x, (sortI (l0.take k))[j]? = some x := ⟨_, List.getElem?_eq_getElem (by first | omega | (simp; done) | (simp; omega) | (simp_all; omega))⟩
      refine WL_guard_yes E rfl rfl ?_
      refine S_v E rfl (R_load E rfl (Try.isAgg3 _) (S.cellI hp_8 hx_9)) rfl ?_
      clear E a; intro a E
      refine WL_guard_yes E rfl rfl ?_
      refine S_v E rfl (R_move E rfl) rfl ?_
      clear E a; intro a E
      refine WL_guard_yes E rfl rfl ?_
      refine S_v E rfl (R_leq E rfl rfl) rfl ?_
      clear E a; intro a E
      refine S_v E rfl (R_pickT E rfl rfl) rfl ?_
      clear E a; intro a E
      refine WL_nil ?_
      refine T_n ?_
      refine WP_cond E rfl (fun hc_10 => ?_) (fun hc_10 => ?_)
      · replace hc_10 := of_decide_eq_true hc_10
        refine WP_skip ?_
        refine T_n ?_
        refine WP_block ?_
        refine WP_region ?_
        refine S_v E rfl (R_move E rfl) rfl ?_
        clear E a; intro a E
        refine S_v E rfl (R_addx (m := ((j + 1 : Nat) : Int)) E rfl rfl (by omega) (by omega)) rfl ?_
        clear E a; intro a E
        refine S_v E rfl (R_assign E rfl) rfl ?_
        clear E a; intro a E
        refine WL_nil ?_
        refine B_n ?_
        refine T_n ?_
        exact ⟨j + 1, ⟨M_6, hM_6, S, E.keep ⟨rfl, rfl, rfl, rfl, rfl, rfl, trivial⟩, (by omega), (by exact take_all (P := fun y => y ≤ (l0[k]?.getD 0)) hL1_1 (by assumption) (by rw [show l0[k]? = some _ by assumption]; assumption))⟩, by omega⟩
      · replace hc_10 := of_decide_eq_false hc_10
        refine WP_exit ?_
        refine T_x ?_
        refine T_x ?_
        refine B_x ?_
        refine T_n ?_
        refine DG_start Try.mixed ?_
        refine DG_split 0 6 (by decide) (by kernel_rfl) ?_ ?_
        · refine DG_split 4 6 (by decide) (by kernel_rfl) ?_ ?_
          · replace S := S.mono_heap (w' := World.drew _) rfl
            refine DG_end (C := fun x w => agree M_6 w) (bf := (fun i => [])) [1, 2, 3, 5, 8, 9, 10, 12] [1, 2, 3, 5, 8, 9, 10, 0, 4, 6, 7, 11, 12] (by kernel_rfl) (fun x hq => S.imm) ?_
            refine D_v E rfl rfl rfl (fun w hC => (R_move E rfl)) ?_
            clear E a; intro a E
            refine D_v E rfl rfl rfl (fun w hC => (R_move E rfl)) ?_
            clear E a; intro a E
            have S0 := S; clear S
            obtain ⟨M_11, hM_11, hz_12, S⟩ := S0.freezeI (by (first | omega | (simp; omega) | (simp; done) | (simp_all; omega) | grind))
            clear S0
            replace h0 := h0.le hM_11
            obtain ⟨v_13, sv_13, hv_13⟩ := hz_12.subv 0 j (by first | omega | (simp; done) | (simp; omega) | (simp_all; omega)) (by first | omega | (simp; done) | (simp; omega) | (simp_all; omega))
            simp only [List.drop_zero] at hv_13
            replace hv_13 : RdI M_11 v_13 ((sortI (l0.take k)).take j) := hv_13
            refine D_v E rfl rfl rfl (fun w hC => (R_sliceH E rfl rfl T22 sv_13 (by omega))) ?_
            clear E a; intro a E
            refine D_v E rfl rfl rfl (fun w hC => (R_move E rfl)) ?_
            clear E a; intro a E
            refine D_v E rfl rfl rfl (fun w hC => (R_move E rfl)) ?_
            clear E a; intro a E
            refine D_v E rfl rfl rfl (fun w hC => (R_move E rfl)) ?_
            clear E a; intro a E
            obtain ⟨v_14, sv_14, hv_14⟩ := hz_12.subv j ((sortI (l0.take k)).length) (by first | omega | (simp; done) | (simp; omega) | (simp_all; omega)) (by first | omega | (simp; done) | (simp; omega) | (simp_all; omega))
            simp only [List.take_length] at hv_14
            replace hv_14 : RdI M_11 v_14 ((sortI (l0.take k)).drop j) := hv_14
            refine D_v E rfl rfl rfl (fun w hC => (R_sliceL E rfl rfl T22 hz_12.len sv_14 (by omega))) ?_
            clear E a; intro a E
            refine D_x rfl rfl rfl (X_buildI (ys := []) E S rfl T22 rfl rfl rfl ?_)
            clear E a S; rintro a w v_15 E S
            refine ⟨fun x hq hb => (agree_le hM_11 S.imm), ?_⟩
            refine D_x rfl rfl rfl (X_appendI (xs := ([] : List Int)) E S rfl rfl rfl T22 hv_13 (by first | omega | (simp; done) | (simp; omega) | (simp_all; omega)) ?_)
            clear E a S; rintro a w v_16 E S
            refine ⟨fun x hq hb => (agree_le hM_11 S.imm), ?_⟩
            refine D_x rfl rfl rfl (X_buildI (ys := [x_4]) E S rfl T22 rfl rfl rfl ?_)
            clear E a S; rintro a w v_17 E S
            refine ⟨fun x hq hb => (agree_le hM_11 S.imm), ?_⟩
            replace S := S.front1
            replace S := S.front1
            refine D_x rfl rfl rfl (X_appendB (xs := [] ++ ((sortI (l0.take k)).take j)) (ys := [x_4]) E S rfl rfl rfl T22 (by first | omega | (simp; done) | (simp; omega) | (simp_all; omega)) ?_)
            clear E a S; rintro a w v_18 E S
            refine ⟨fun x hq hb => (agree_le hM_11 S.imm), ?_⟩
            refine D_x rfl rfl rfl (X_appendI (xs := ([] ++ ((sortI (l0.take k)).take j)) ++ [x_4]) E S rfl rfl rfl T22 hv_14 (by first | omega | (simp; done) | (simp; omega) | (simp_all; omega)) ?_)
            clear E a S; rintro a w v_19 E S
            refine ⟨fun x hq hb => (agree_le hM_11 S.imm), ?_⟩
            refine D_v E rfl rfl rfl (fun w hC => (R_assign E rfl)) ?_
            clear E a; intro a E
            refine D_end (NoP_n ?_)
            refine B_n ?_
            refine T_n ?_
            refine WP_region ?_
            refine S_v E rfl (R_addx (m := ((k + 1 : Nat) : Int)) E rfl rfl (by omega) (by omega)) rfl ?_
            clear E a; intro a E
            refine S_v E rfl (R_move E rfl) rfl ?_
            clear E a; intro a E
            refine WL_nil ?_
            refine T_n ?_
            replace S := S.re1 (l' := sortI (l0.take (k + 1))) (by first | (simp [sortI]; done) | (rw [sortI_take (by assumption), ← ins_at (j := j) (by omega) (by intro y hy; have h9 := hL1_1 y hy; rw [show l0[k]? = some _ by assumption] at h9; exact h9) (by first | (left; omega) | (right; exact ⟨_, by assumption, by assumption⟩))]; done) | (rw [sortI_take (by assumption), ← ins_at (j := j) (by omega) (by intro y hy; have h9 := hL1_1 y hy; rw [show l0[k]? = some _ by assumption] at h9; exact h9) (by first | (left; omega) | (right; exact ⟨_, by assumption, by assumption⟩))]; simp; done))
            exact ⟨k + 1, ⟨M_11, _, (hM_2.trans (hM_6.trans hM_11)), S, E.keep ⟨rfl, rfl, rfl, rfl, trivial⟩, by ((try clear S); (try clear E); first | assumption | omega | rfl | (simp; done) | (simp_all; done) | (simp [List.take_add_one, *]; done) | grind [List.take_add_one])⟩, by omega⟩
          · replace S := S.mono_heap (w' := World.drew _) rfl
            refine DG_end (C := fun x w => agree M_6 w) (bf := (fun i => [])) [1, 2, 3, 5, 8, 9, 10, 12] [1, 2, 3, 5, 8, 9, 10, 0, 6, 4, 7, 11, 12] (by kernel_rfl) (fun x hq => S.imm) ?_
            refine D_v E rfl rfl rfl (fun w hC => (R_move E rfl)) ?_
            clear E a; intro a E
            refine D_v E rfl rfl rfl (fun w hC => (R_move E rfl)) ?_
            clear E a; intro a E
            have S0 := S; clear S
            obtain ⟨M_20, hM_20, hz_21, S⟩ := S0.freezeI (by (first | omega | (simp; omega) | (simp; done) | (simp_all; omega) | grind))
            clear S0
            replace h0 := h0.le hM_20
            obtain ⟨v_22, sv_22, hv_22⟩ := hz_21.subv 0 j (by first | omega | (simp; done) | (simp; omega) | (simp_all; omega)) (by first | omega | (simp; done) | (simp; omega) | (simp_all; omega))
            simp only [List.drop_zero] at hv_22
            replace hv_22 : RdI M_20 v_22 ((sortI (l0.take k)).take j) := hv_22
            refine D_v E rfl rfl rfl (fun w hC => (R_sliceH E rfl rfl T22 sv_22 (by omega))) ?_
            clear E a; intro a E
            refine D_v E rfl rfl rfl (fun w hC => (R_move E rfl)) ?_
            clear E a; intro a E
            refine D_v E rfl rfl rfl (fun w hC => (R_move E rfl)) ?_
            clear E a; intro a E
            refine D_v E rfl rfl rfl (fun w hC => (R_move E rfl)) ?_
            clear E a; intro a E
            obtain ⟨v_23, sv_23, hv_23⟩ := hz_21.subv j ((sortI (l0.take k)).length) (by first | omega | (simp; done) | (simp; omega) | (simp_all; omega)) (by first | omega | (simp; done) | (simp; omega) | (simp_all; omega))
            simp only [List.take_length] at hv_23
            replace hv_23 : RdI M_20 v_23 ((sortI (l0.take k)).drop j) := hv_23
            refine D_v E rfl rfl rfl (fun w hC => (R_sliceL E rfl rfl T22 hz_21.len sv_23 (by omega))) ?_
            clear E a; intro a E
            refine D_x rfl rfl rfl (X_buildI (ys := []) E S rfl T22 rfl rfl rfl ?_)
            clear E a S; rintro a w v_24 E S
            refine ⟨fun x hq hb => (agree_le hM_20 S.imm), ?_⟩
            refine D_x rfl rfl rfl (X_buildI (ys := [x_4]) E S rfl T22 rfl rfl rfl ?_)
            clear E a S; rintro a w v_25 E S
            refine ⟨fun x hq hb => (agree_le hM_20 S.imm), ?_⟩
            replace S := S.front1
            refine D_x rfl rfl rfl (X_appendI (xs := ([] : List Int)) E S rfl rfl rfl T22 hv_22 (by first | omega | (simp; done) | (simp; omega) | (simp_all; omega)) ?_)
            clear E a S; rintro a w v_26 E S
            refine ⟨fun x hq hb => (agree_le hM_20 S.imm), ?_⟩
            replace S := S.front1
            refine D_x rfl rfl rfl (X_appendB (xs := [] ++ ((sortI (l0.take k)).take j)) (ys := [x_4]) E S rfl rfl rfl T22 (by first | omega | (simp; done) | (simp; omega) | (simp_all; omega)) ?_)
            clear E a S; rintro a w v_27 E S
            refine ⟨fun x hq hb => (agree_le hM_20 S.imm), ?_⟩
            refine D_x rfl rfl rfl (X_appendI (xs := ([] ++ ((sortI (l0.take k)).take j)) ++ [x_4]) E S rfl rfl rfl T22 hv_23 (by first | omega | (simp; done) | (simp; omega) | (simp_all; omega)) ?_)
            clear E a S; rintro a w v_28 E S
            refine ⟨fun x hq hb => (agree_le hM_20 S.imm), ?_⟩
            refine D_v E rfl rfl rfl (fun w hC => (R_assign E rfl)) ?_
            clear E a; intro a E
            refine D_end (NoP_n ?_)
            refine B_n ?_
            refine T_n ?_
            refine WP_region ?_
            refine S_v E rfl (R_addx (m := ((k + 1 : Nat) : Int)) E rfl rfl (by omega) (by omega)) rfl ?_
            clear E a; intro a E
            refine S_v E rfl (R_move E rfl) rfl ?_
            clear E a; intro a E
            refine WL_nil ?_
            refine T_n ?_
            replace S := S.re1 (l' := sortI (l0.take (k + 1))) (by first | (simp [sortI]; done) | (rw [sortI_take (by assumption), ← ins_at (j := j) (by omega) (by intro y hy; have h9 := hL1_1 y hy; rw [show l0[k]? = some _ by assumption] at h9; exact h9) (by first | (left; omega) | (right; exact ⟨_, by assumption, by assumption⟩))]; done) | (rw [sortI_take (by assumption), ← ins_at (j := j) (by omega) (by intro y hy; have h9 := hL1_1 y hy; rw [show l0[k]? = some _ by assumption] at h9; exact h9) (by first | (left; omega) | (right; exact ⟨_, by assumption, by assumption⟩))]; simp; done))
            exact ⟨k + 1, ⟨M_20, _, (hM_2.trans (hM_6.trans hM_20)), S, E.keep ⟨rfl, rfl, rfl, rfl, trivial⟩, by ((try clear S); (try clear E); first | assumption | omega | rfl | (simp; done) | (simp_all; done) | (simp [List.take_add_one, *]; done) | grind [List.take_add_one])⟩, by omega⟩
        · replace S := S.mono_heap (w' := World.drew _) rfl
          refine DG_end (C := fun x w => agree M_6 w) (bf := (fun i => [])) [1, 2, 3, 5, 8, 9, 10, 12] [1, 2, 3, 5, 8, 9, 10, 6, 0, 4, 7, 11, 12] (by kernel_rfl) (fun x hq => S.imm) ?_
          refine D_v E rfl rfl rfl (fun w hC => (R_move E rfl)) ?_
          clear E a; intro a E
          refine D_v E rfl rfl rfl (fun w hC => (R_move E rfl)) ?_
          clear E a; intro a E
          have S0 := S; clear S
          obtain ⟨M_29, hM_29, hz_30, S⟩ := S0.freezeI (by (first | omega | (simp; omega) | (simp; done) | (simp_all; omega) | grind))
          clear S0
          replace h0 := h0.le hM_29
          obtain ⟨v_31, sv_31, hv_31⟩ := hz_30.subv 0 j (by first | omega | (simp; done) | (simp; omega) | (simp_all; omega)) (by first | omega | (simp; done) | (simp; omega) | (simp_all; omega))
          simp only [List.drop_zero] at hv_31
          replace hv_31 : RdI M_29 v_31 ((sortI (l0.take k)).take j) := hv_31
          refine D_v E rfl rfl rfl (fun w hC => (R_sliceH E rfl rfl T22 sv_31 (by omega))) ?_
          clear E a; intro a E
          refine D_v E rfl rfl rfl (fun w hC => (R_move E rfl)) ?_
          clear E a; intro a E
          refine D_v E rfl rfl rfl (fun w hC => (R_move E rfl)) ?_
          clear E a; intro a E
          refine D_v E rfl rfl rfl (fun w hC => (R_move E rfl)) ?_
          clear E a; intro a E
          obtain ⟨v_32, sv_32, hv_32⟩ := hz_30.subv j ((sortI (l0.take k)).length) (by first | omega | (simp; done) | (simp; omega) | (simp_all; omega)) (by first | omega | (simp; done) | (simp; omega) | (simp_all; omega))
          simp only [List.take_length] at hv_32
          replace hv_32 : RdI M_29 v_32 ((sortI (l0.take k)).drop j) := hv_32
          refine D_v E rfl rfl rfl (fun w hC => (R_sliceL E rfl rfl T22 hz_30.len sv_32 (by omega))) ?_
          clear E a; intro a E
          refine D_x rfl rfl rfl (X_buildI (ys := [x_4]) E S rfl T22 rfl rfl rfl ?_)
          clear E a S; rintro a w v_33 E S
          refine ⟨fun x hq hb => (agree_le hM_29 S.imm), ?_⟩
          refine D_x rfl rfl rfl (X_buildI (ys := []) E S rfl T22 rfl rfl rfl ?_)
          clear E a S; rintro a w v_34 E S
          refine ⟨fun x hq hb => (agree_le hM_29 S.imm), ?_⟩
          refine D_x rfl rfl rfl (X_appendI (xs := ([] : List Int)) E S rfl rfl rfl T22 hv_31 (by first | omega | (simp; done) | (simp; omega) | (simp_all; omega)) ?_)
          clear E a S; rintro a w v_35 E S
          refine ⟨fun x hq hb => (agree_le hM_29 S.imm), ?_⟩
          replace S := S.front1
          refine D_x rfl rfl rfl (X_appendB (xs := [] ++ ((sortI (l0.take k)).take j)) (ys := [x_4]) E S rfl rfl rfl T22 (by first | omega | (simp; done) | (simp; omega) | (simp_all; omega)) ?_)
          clear E a S; rintro a w v_36 E S
          refine ⟨fun x hq hb => (agree_le hM_29 S.imm), ?_⟩
          refine D_x rfl rfl rfl (X_appendI (xs := ([] ++ ((sortI (l0.take k)).take j)) ++ [x_4]) E S rfl rfl rfl T22 hv_32 (by first | omega | (simp; done) | (simp; omega) | (simp_all; omega)) ?_)
          clear E a S; rintro a w v_37 E S
          refine ⟨fun x hq hb => (agree_le hM_29 S.imm), ?_⟩
          refine D_v E rfl rfl rfl (fun w hC => (R_assign E rfl)) ?_
          clear E a; intro a E
          refine D_end (NoP_n ?_)
          refine B_n ?_
          refine T_n ?_
          refine WP_region ?_
          refine S_v E rfl (R_addx (m := ((k + 1 : Nat) : Int)) E rfl rfl (by omega) (by omega)) rfl ?_
          clear E a; intro a E
          refine S_v E rfl (R_move E rfl) rfl ?_
          clear E a; intro a E
          refine WL_nil ?_
          refine T_n ?_
          replace S := S.re1 (l' := sortI (l0.take (k + 1))) (by first | (simp [sortI]; done) | (rw [sortI_take (by assumption), ← ins_at (j := j) (by omega) (by intro y hy; have h9 := hL1_1 y hy; rw [show l0[k]? = some _ by assumption] at h9; exact h9) (by first | (left; omega) | (right; exact ⟨_, by assumption, by assumption⟩))]; done) | (rw [sortI_take (by assumption), ← ins_at (j := j) (by omega) (by intro y hy; have h9 := hL1_1 y hy; rw [show l0[k]? = some _ by assumption] at h9; exact h9) (by first | (left; omega) | (right; exact ⟨_, by assumption, by assumption⟩))]; simp; done))
          exact ⟨k + 1, ⟨M_29, _, (hM_2.trans (hM_6.trans hM_29)), S, E.keep ⟨rfl, rfl, rfl, rfl, trivial⟩, by ((try clear S); (try clear E); first | assumption | omega | rfl | (simp; done) | (simp_all; done) | (simp [List.take_add_one, *]; done) | grind [List.take_add_one])⟩, by omega⟩
    · replace E := E.val (t := 16) rfl hc_7
      replace E := E.val (t := 17) rfl hc_7
      replace hc_7 := of_decide_eq_false hc_7
      refine WL_guard_no E rfl rfl rfl rfl fun a E => ?_
      refine WL_guard_no E rfl rfl rfl rfl fun a E => ?_
      refine WL_guard_no E rfl rfl rfl rfl fun a E => ?_
      refine WL_guard_no E rfl rfl rfl rfl fun a E => ?_
      refine WL_guard_no E rfl rfl rfl rfl fun a E => ?_
      refine WL_guard_no E rfl rfl rfl rfl fun a E => ?_
      refine S_v E rfl (R_pickF E rfl rfl) rfl ?_
      clear E a; intro a E
      refine WL_nil ?_
      refine T_n ?_
      refine WP_condF E rfl rfl ?_
      refine WP_exit ?_
      refine T_x ?_
      refine T_x ?_
      refine B_x ?_
      refine T_n ?_
      refine DG_start Try.mixed ?_
      refine DG_split 0 6 (by decide) (by kernel_rfl) ?_ ?_
      · refine DG_split 4 6 (by decide) (by kernel_rfl) ?_ ?_
        · replace S := S.mono_heap (w' := World.drew _) rfl
          refine DG_end (C := fun x w => agree M_6 w) (bf := (fun i => [])) [1, 2, 3, 5, 8, 9, 10, 12] [1, 2, 3, 5, 8, 9, 10, 0, 4, 6, 7, 11, 12] (by kernel_rfl) (fun x hq => S.imm) ?_
          refine D_v E rfl rfl rfl (fun w hC => (R_move E rfl)) ?_
          clear E a; intro a E
          refine D_v E rfl rfl rfl (fun w hC => (R_move E rfl)) ?_
          clear E a; intro a E
          have S0 := S; clear S
          obtain ⟨M_38, hM_38, hz_39, S⟩ := S0.freezeI (by (first | omega | (simp; omega) | (simp; done) | (simp_all; omega) | grind))
          clear S0
          replace h0 := h0.le hM_38
          obtain ⟨v_40, sv_40, hv_40⟩ := hz_39.subv 0 j (by first | omega | (simp; done) | (simp; omega) | (simp_all; omega)) (by first | omega | (simp; done) | (simp; omega) | (simp_all; omega))
          simp only [List.drop_zero] at hv_40
          replace hv_40 : RdI M_38 v_40 ((sortI (l0.take k)).take j) := hv_40
          refine D_v E rfl rfl rfl (fun w hC => (R_sliceH E rfl rfl T22 sv_40 (by omega))) ?_
          clear E a; intro a E
          refine D_v E rfl rfl rfl (fun w hC => (R_move E rfl)) ?_
          clear E a; intro a E
          refine D_v E rfl rfl rfl (fun w hC => (R_move E rfl)) ?_
          clear E a; intro a E
          refine D_v E rfl rfl rfl (fun w hC => (R_move E rfl)) ?_
          clear E a; intro a E
          obtain ⟨v_41, sv_41, hv_41⟩ := hz_39.subv j ((sortI (l0.take k)).length) (by first | omega | (simp; done) | (simp; omega) | (simp_all; omega)) (by first | omega | (simp; done) | (simp; omega) | (simp_all; omega))
          simp only [List.take_length] at hv_41
          replace hv_41 : RdI M_38 v_41 ((sortI (l0.take k)).drop j) := hv_41
          refine D_v E rfl rfl rfl (fun w hC => (R_sliceL E rfl rfl T22 hz_39.len sv_41 (by omega))) ?_
          clear E a; intro a E
          refine D_x rfl rfl rfl (X_buildI (ys := []) E S rfl T22 rfl rfl rfl ?_)
          clear E a S; rintro a w v_42 E S
          refine ⟨fun x hq hb => (agree_le hM_38 S.imm), ?_⟩
          refine D_x rfl rfl rfl (X_appendI (xs := ([] : List Int)) E S rfl rfl rfl T22 hv_40 (by first | omega | (simp; done) | (simp; omega) | (simp_all; omega)) ?_)
          clear E a S; rintro a w v_43 E S
          refine ⟨fun x hq hb => (agree_le hM_38 S.imm), ?_⟩
          refine D_x rfl rfl rfl (X_buildI (ys := [x_4]) E S rfl T22 rfl rfl rfl ?_)
          clear E a S; rintro a w v_44 E S
          refine ⟨fun x hq hb => (agree_le hM_38 S.imm), ?_⟩
          replace S := S.front1
          replace S := S.front1
          refine D_x rfl rfl rfl (X_appendB (xs := [] ++ ((sortI (l0.take k)).take j)) (ys := [x_4]) E S rfl rfl rfl T22 (by first | omega | (simp; done) | (simp; omega) | (simp_all; omega)) ?_)
          clear E a S; rintro a w v_45 E S
          refine ⟨fun x hq hb => (agree_le hM_38 S.imm), ?_⟩
          refine D_x rfl rfl rfl (X_appendI (xs := ([] ++ ((sortI (l0.take k)).take j)) ++ [x_4]) E S rfl rfl rfl T22 hv_41 (by first | omega | (simp; done) | (simp; omega) | (simp_all; omega)) ?_)
          clear E a S; rintro a w v_46 E S
          refine ⟨fun x hq hb => (agree_le hM_38 S.imm), ?_⟩
          refine D_v E rfl rfl rfl (fun w hC => (R_assign E rfl)) ?_
          clear E a; intro a E
          refine D_end (NoP_n ?_)
          refine B_n ?_
          refine T_n ?_
          refine WP_region ?_
          refine S_v E rfl (R_addx (m := ((k + 1 : Nat) : Int)) E rfl rfl (by omega) (by omega)) rfl ?_
          clear E a; intro a E
          refine S_v E rfl (R_move E rfl) rfl ?_
          clear E a; intro a E
          refine WL_nil ?_
          refine T_n ?_
          replace S := S.re1 (l' := sortI (l0.take (k + 1))) (by first | (simp [sortI]; done) | (rw [sortI_take (by assumption), ← ins_at (j := j) (by omega) (by intro y hy; have h9 := hL1_1 y hy; rw [show l0[k]? = some _ by assumption] at h9; exact h9) (by first | (left; omega) | (right; exact ⟨_, by assumption, by assumption⟩))]; done) | (rw [sortI_take (by assumption), ← ins_at (j := j) (by omega) (by intro y hy; have h9 := hL1_1 y hy; rw [show l0[k]? = some _ by assumption] at h9; exact h9) (by first | (left; omega) | (right; exact ⟨_, by assumption, by assumption⟩))]; simp; done))
          exact ⟨k + 1, ⟨M_38, _, (hM_2.trans (hM_6.trans hM_38)), S, E.keep ⟨rfl, rfl, rfl, rfl, trivial⟩, by ((try clear S); (try clear E); first | assumption | omega | rfl | (simp; done) | (simp_all; done) | (simp [List.take_add_one, *]; done) | grind [List.take_add_one])⟩, by omega⟩
        · replace S := S.mono_heap (w' := World.drew _) rfl
          refine DG_end (C := fun x w => agree M_6 w) (bf := (fun i => [])) [1, 2, 3, 5, 8, 9, 10, 12] [1, 2, 3, 5, 8, 9, 10, 0, 6, 4, 7, 11, 12] (by kernel_rfl) (fun x hq => S.imm) ?_
          refine D_v E rfl rfl rfl (fun w hC => (R_move E rfl)) ?_
          clear E a; intro a E
          refine D_v E rfl rfl rfl (fun w hC => (R_move E rfl)) ?_
          clear E a; intro a E
          have S0 := S; clear S
          obtain ⟨M_47, hM_47, hz_48, S⟩ := S0.freezeI (by (first | omega | (simp; omega) | (simp; done) | (simp_all; omega) | grind))
          clear S0
          replace h0 := h0.le hM_47
          obtain ⟨v_49, sv_49, hv_49⟩ := hz_48.subv 0 j (by first | omega | (simp; done) | (simp; omega) | (simp_all; omega)) (by first | omega | (simp; done) | (simp; omega) | (simp_all; omega))
          simp only [List.drop_zero] at hv_49
          replace hv_49 : RdI M_47 v_49 ((sortI (l0.take k)).take j) := hv_49
          refine D_v E rfl rfl rfl (fun w hC => (R_sliceH E rfl rfl T22 sv_49 (by omega))) ?_
          clear E a; intro a E
          refine D_v E rfl rfl rfl (fun w hC => (R_move E rfl)) ?_
          clear E a; intro a E
          refine D_v E rfl rfl rfl (fun w hC => (R_move E rfl)) ?_
          clear E a; intro a E
          refine D_v E rfl rfl rfl (fun w hC => (R_move E rfl)) ?_
          clear E a; intro a E
          obtain ⟨v_50, sv_50, hv_50⟩ := hz_48.subv j ((sortI (l0.take k)).length) (by first | omega | (simp; done) | (simp; omega) | (simp_all; omega)) (by first | omega | (simp; done) | (simp; omega) | (simp_all; omega))
          simp only [List.take_length] at hv_50
          replace hv_50 : RdI M_47 v_50 ((sortI (l0.take k)).drop j) := hv_50
          refine D_v E rfl rfl rfl (fun w hC => (R_sliceL E rfl rfl T22 hz_48.len sv_50 (by omega))) ?_
          clear E a; intro a E
          refine D_x rfl rfl rfl (X_buildI (ys := []) E S rfl T22 rfl rfl rfl ?_)
          clear E a S; rintro a w v_51 E S
          refine ⟨fun x hq hb => (agree_le hM_47 S.imm), ?_⟩
          refine D_x rfl rfl rfl (X_buildI (ys := [x_4]) E S rfl T22 rfl rfl rfl ?_)
          clear E a S; rintro a w v_52 E S
          refine ⟨fun x hq hb => (agree_le hM_47 S.imm), ?_⟩
          replace S := S.front1
          refine D_x rfl rfl rfl (X_appendI (xs := ([] : List Int)) E S rfl rfl rfl T22 hv_49 (by first | omega | (simp; done) | (simp; omega) | (simp_all; omega)) ?_)
          clear E a S; rintro a w v_53 E S
          refine ⟨fun x hq hb => (agree_le hM_47 S.imm), ?_⟩
          replace S := S.front1
          refine D_x rfl rfl rfl (X_appendB (xs := [] ++ ((sortI (l0.take k)).take j)) (ys := [x_4]) E S rfl rfl rfl T22 (by first | omega | (simp; done) | (simp; omega) | (simp_all; omega)) ?_)
          clear E a S; rintro a w v_54 E S
          refine ⟨fun x hq hb => (agree_le hM_47 S.imm), ?_⟩
          refine D_x rfl rfl rfl (X_appendI (xs := ([] ++ ((sortI (l0.take k)).take j)) ++ [x_4]) E S rfl rfl rfl T22 hv_50 (by first | omega | (simp; done) | (simp; omega) | (simp_all; omega)) ?_)
          clear E a S; rintro a w v_55 E S
          refine ⟨fun x hq hb => (agree_le hM_47 S.imm), ?_⟩
          refine D_v E rfl rfl rfl (fun w hC => (R_assign E rfl)) ?_
          clear E a; intro a E
          refine D_end (NoP_n ?_)
          refine B_n ?_
          refine T_n ?_
          refine WP_region ?_
          refine S_v E rfl (R_addx (m := ((k + 1 : Nat) : Int)) E rfl rfl (by omega) (by omega)) rfl ?_
          clear E a; intro a E
          refine S_v E rfl (R_move E rfl) rfl ?_
          clear E a; intro a E
          refine WL_nil ?_
          refine T_n ?_
          replace S := S.re1 (l' := sortI (l0.take (k + 1))) (by first | (simp [sortI]; done) | (rw [sortI_take (by assumption), ← ins_at (j := j) (by omega) (by intro y hy; have h9 := hL1_1 y hy; rw [show l0[k]? = some _ by assumption] at h9; exact h9) (by first | (left; omega) | (right; exact ⟨_, by assumption, by assumption⟩))]; done) | (rw [sortI_take (by assumption), ← ins_at (j := j) (by omega) (by intro y hy; have h9 := hL1_1 y hy; rw [show l0[k]? = some _ by assumption] at h9; exact h9) (by first | (left; omega) | (right; exact ⟨_, by assumption, by assumption⟩))]; simp; done))
          exact ⟨k + 1, ⟨M_47, _, (hM_2.trans (hM_6.trans hM_47)), S, E.keep ⟨rfl, rfl, rfl, rfl, trivial⟩, by ((try clear S); (try clear E); first | assumption | omega | rfl | (simp; done) | (simp_all; done) | (simp [List.take_add_one, *]; done) | grind [List.take_add_one])⟩, by omega⟩
      · replace S := S.mono_heap (w' := World.drew _) rfl
        refine DG_end (C := fun x w => agree M_6 w) (bf := (fun i => [])) [1, 2, 3, 5, 8, 9, 10, 12] [1, 2, 3, 5, 8, 9, 10, 6, 0, 4, 7, 11, 12] (by kernel_rfl) (fun x hq => S.imm) ?_
        refine D_v E rfl rfl rfl (fun w hC => (R_move E rfl)) ?_
        clear E a; intro a E
        refine D_v E rfl rfl rfl (fun w hC => (R_move E rfl)) ?_
        clear E a; intro a E
        have S0 := S; clear S
        obtain ⟨M_56, hM_56, hz_57, S⟩ := S0.freezeI (by (first | omega | (simp; omega) | (simp; done) | (simp_all; omega) | grind))
        clear S0
        replace h0 := h0.le hM_56
        obtain ⟨v_58, sv_58, hv_58⟩ := hz_57.subv 0 j (by first | omega | (simp; done) | (simp; omega) | (simp_all; omega)) (by first | omega | (simp; done) | (simp; omega) | (simp_all; omega))
        simp only [List.drop_zero] at hv_58
        replace hv_58 : RdI M_56 v_58 ((sortI (l0.take k)).take j) := hv_58
        refine D_v E rfl rfl rfl (fun w hC => (R_sliceH E rfl rfl T22 sv_58 (by omega))) ?_
        clear E a; intro a E
        refine D_v E rfl rfl rfl (fun w hC => (R_move E rfl)) ?_
        clear E a; intro a E
        refine D_v E rfl rfl rfl (fun w hC => (R_move E rfl)) ?_
        clear E a; intro a E
        refine D_v E rfl rfl rfl (fun w hC => (R_move E rfl)) ?_
        clear E a; intro a E
        obtain ⟨v_59, sv_59, hv_59⟩ := hz_57.subv j ((sortI (l0.take k)).length) (by first | omega | (simp; done) | (simp; omega) | (simp_all; omega)) (by first | omega | (simp; done) | (simp; omega) | (simp_all; omega))
        simp only [List.take_length] at hv_59
        replace hv_59 : RdI M_56 v_59 ((sortI (l0.take k)).drop j) := hv_59
        refine D_v E rfl rfl rfl (fun w hC => (R_sliceL E rfl rfl T22 hz_57.len sv_59 (by omega))) ?_
        clear E a; intro a E
        refine D_x rfl rfl rfl (X_buildI (ys := [x_4]) E S rfl T22 rfl rfl rfl ?_)
        clear E a S; rintro a w v_60 E S
        refine ⟨fun x hq hb => (agree_le hM_56 S.imm), ?_⟩
        refine D_x rfl rfl rfl (X_buildI (ys := []) E S rfl T22 rfl rfl rfl ?_)
        clear E a S; rintro a w v_61 E S
        refine ⟨fun x hq hb => (agree_le hM_56 S.imm), ?_⟩
        refine D_x rfl rfl rfl (X_appendI (xs := ([] : List Int)) E S rfl rfl rfl T22 hv_58 (by first | omega | (simp; done) | (simp; omega) | (simp_all; omega)) ?_)
        clear E a S; rintro a w v_62 E S
        refine ⟨fun x hq hb => (agree_le hM_56 S.imm), ?_⟩
        replace S := S.front1
        refine D_x rfl rfl rfl (X_appendB (xs := [] ++ ((sortI (l0.take k)).take j)) (ys := [x_4]) E S rfl rfl rfl T22 (by first | omega | (simp; done) | (simp; omega) | (simp_all; omega)) ?_)
        clear E a S; rintro a w v_63 E S
        refine ⟨fun x hq hb => (agree_le hM_56 S.imm), ?_⟩
        refine D_x rfl rfl rfl (X_appendI (xs := ([] ++ ((sortI (l0.take k)).take j)) ++ [x_4]) E S rfl rfl rfl T22 hv_59 (by first | omega | (simp; done) | (simp; omega) | (simp_all; omega)) ?_)
        clear E a S; rintro a w v_64 E S
        refine ⟨fun x hq hb => (agree_le hM_56 S.imm), ?_⟩
        refine D_v E rfl rfl rfl (fun w hC => (R_assign E rfl)) ?_
        clear E a; intro a E
        refine D_end (NoP_n ?_)
        refine B_n ?_
        refine T_n ?_
        refine WP_region ?_
        refine S_v E rfl (R_addx (m := ((k + 1 : Nat) : Int)) E rfl rfl (by omega) (by omega)) rfl ?_
        clear E a; intro a E
        refine S_v E rfl (R_move E rfl) rfl ?_
        clear E a; intro a E
        refine WL_nil ?_
        refine T_n ?_
        replace S := S.re1 (l' := sortI (l0.take (k + 1))) (by first | (simp [sortI]; done) | (rw [sortI_take (by assumption), ← ins_at (j := j) (by omega) (by intro y hy; have h9 := hL1_1 y hy; rw [show l0[k]? = some _ by assumption] at h9; exact h9) (by first | (left; omega) | (right; exact ⟨_, by assumption, by assumption⟩))]; done) | (rw [sortI_take (by assumption), ← ins_at (j := j) (by omega) (by intro y hy; have h9 := hL1_1 y hy; rw [show l0[k]? = some _ by assumption] at h9; exact h9) (by first | (left; omega) | (right; exact ⟨_, by assumption, by assumption⟩))]; simp; done))
        exact ⟨k + 1, ⟨M_56, _, (hM_2.trans (hM_6.trans hM_56)), S, E.keep ⟨rfl, rfl, rfl, rfl, trivial⟩, by ((try clear S); (try clear E); first | assumption | omega | rfl | (simp; done) | (simp_all; done) | (simp [List.take_add_one, *]; done) | grind [List.take_add_one])⟩, by omega⟩
  · replace hc_3 := of_decide_eq_false hc_3
    refine WP_exit ?_
    refine T_x ?_
    refine T_x ?_
    refine B_x ?_
    refine T_n ?_
    refine WP_seq ?_
    refine WP_region ?_
    refine S_v E rfl (R_move E rfl) rfl ?_
    clear E a; intro a E
    refine S_v E rfl (R_assign E rfl) rfl ?_
    clear E a; intro a E
    refine WL_nil ?_
    refine T_n ?_
    refine WP_ret ?_
    have S0 := S; clear S
    obtain ⟨M_65, hM_65, hz_66, S⟩ := S0.freezeI (by (first | omega | (simp; omega) | (simp; done) | (simp_all; omega) | grind))
    clear S0
    replace h0 := h0.le hM_65
    exact F_ret1 E Try.results176 rfl ⟨_, rfl, M_65, (hM_2.trans hM_65), (by rw [show (sortI l0) = (sortI (l0.take k)) from by (rw [List.take_of_length_le (by omega)])]; exact hz_66), S⟩

set_option maxRecDepth 100000 in
set_option maxHeartbeats 4000000 in
theorem spec_Equal {M : Hp} {v0 v1 : Value} {l0 l1 : List Int} (h0 : RdI M v0 l0) (h1 : RdI M v1 l1) :
    Pu Try.prog (.func (.func 175) #[] #[]) M [v0, v1] (fun r M' => r = .bool (decide (l0 = l1))) := by
  refine Pu_enter Try.func175 rfl Try.ntmps175 rfl Try.call175 ?_
  intro a w M1 H hM1 S E
  replace h0 := h0.le hM1
  replace h1 := h1.le hM1
  have b0 := h0.bound
  have b1 := h1.bound
  refine WP_seq ?_
  refine WP_region ?_
  refine S_v E rfl (R_assign E rfl) rfl ?_
  clear E a; intro a E
  refine WL_nil ?_
  refine T_n ?_
  refine WP_seq ?_
  refine WP_seq ?_
  refine WP_region ?_
  refine S_v E rfl (R_move E rfl) rfl ?_
  clear E a; intro a E
  refine S_v E rfl (R_lenV E rfl T22 h0.len) rfl ?_
  clear E a; intro a E
  refine S_v E rfl (R_move E rfl) rfl ?_
  clear E a; intro a E
  refine S_v E rfl (R_lenV E rfl T22 h1.len) rfl ?_
  clear E a; intro a E
  refine S_v E rfl (R_neq E rfl rfl) rfl ?_
  clear E a; intro a E
  refine WL_nil ?_
  refine T_n ?_
  refine WP_cond E rfl (fun hc_1 => ?_) (fun hc_1 => ?_)
  · replace hc_1 := of_decide_eq_true hc_1
    refine WP_seq ?_
    refine WP_region ?_
    refine S_v E rfl (R_assign E rfl) rfl ?_
    clear E a; intro a E
    refine WL_nil ?_
    refine T_n ?_
    refine WP_ret ?_
    refine T_r ?_
    exact F_ret1 E Try.results175 rfl ⟨_, rfl, M1, (Hp.le.refl _), (bF (by ((try clear S); (try clear E); first | assumption | omega | rfl | (simp; done) | (simp_all; done) | (simp [List.take_add_one, *]; done) | grind [List.take_add_one]))), S⟩
  · replace hc_1 := of_decide_eq_false hc_1
    refine WP_skip ?_
    refine T_n ?_
    refine WP_seq ?_
    refine WP_seq ?_
    refine WP_region ?_
    refine S_v E rfl (R_move E rfl) rfl ?_
    clear E a; intro a E
    refine S_v E rfl (R_lenV E rfl T22 h0.len) rfl ?_
    clear E a; intro a E
    refine S_v E rfl (R_move E rfl) rfl ?_
    clear E a; intro a E
    refine WL_nil ?_
    refine T_n ?_
    refine WP_block ?_
    refine WP_loop (γ := Nat) (fun (k : Nat) a w => ∃ (M_2 : Hp), Hp.le M1 M_2 ∧ St w M_2 (H) ∧ Env a 26 [] [(0, v0), (1, v1), (12, .int .i64 (((l0).length : Nat) : Int)), (13, .int .i64 ((k : Nat) : Int))] ∧ (k ≤ (l0).length) ∧ (l0.length = l1.length) ∧ (l0.take k = l1.take k)) (fun k => ((l0).length) - k) 0 ⟨M1, Hp.le.refl _, S, E.keep ⟨rfl, rfl, rfl, rfl, trivial⟩, by ((try clear S); (try clear E); first | assumption | omega | rfl | (simp; done) | (simp_all; done) | (simp [List.take_add_one, *]; done) | grind [List.take_add_one]), by ((try clear S); (try clear E); first | assumption | omega | rfl | (simp; done) | (simp_all; done) | (simp [List.take_add_one, *]; done) | grind [List.take_add_one]), by ((try clear S); (try clear E); first | assumption | omega | rfl | (simp; done) | (simp_all; done) | (simp [List.take_add_one, *]; done) | grind [List.take_add_one])⟩ ?_
    try clear E
    try clear S
    try clear a
    try clear w
    rintro k a w ⟨M_2, hM_2, S, E, hL0_0, hL0_1, hL0_2⟩
    replace h0 := h0.le hM_2
    replace h1 := h1.le hM_2
    refine WP_seq ?_
    refine WP_region ?_
    refine S_v E rfl (R_lss E rfl rfl) rfl ?_
    clear E a; intro a E
    refine WL_nil ?_
    refine T_n ?_
    refine WP_seq ?_
    refine WP_cond E rfl (fun hc_3 => ?_) (fun hc_3 => ?_)
    · replace hc_3 := of_decide_eq_true hc_3
      refine WP_skip ?_
      refine T_n ?_
      refine WP_seq ?_
      refine WP_block ?_
      refine WP_seq ?_
      refine WP_region ?_
      refine S_v E rfl (R_move E rfl) rfl ?_
      clear E a; intro a E
      refine S_v E rfl (R_assign E rfl) rfl ?_
      clear E a; intro a E
      refine WL_nil ?_
      refine T_n ?_
      refine WP_seq ?_
      replace S := S.mono_heap (w' := World.drew _) rfl
      refine WP_drawn (C := fun x w => agree M_2 w) (bf := (fun i => [])) [0, 1, 2, 3, 4, 5, 6, 7, 8] [0, 1, 2, 3, 4, 5, 6, 7, 8] Try.mixed (by kernel_rfl) (fun x hq => S.imm) ?_
      refine D_v E rfl rfl rfl (fun w hC => (R_move E rfl)) ?_
      clear E a; intro a E
      refine D_v E rfl rfl rfl (fun w hC => (R_move E rfl)) ?_
      clear E a; intro a E
      obtain ⟨x_4, hx_4⟩ : ∃ x, (l0)[k]? = some x := ⟨_, List.getElem?_eq_getElem (by first | omega | (simp; done) | (simp; omega) | (simp_all; omega))⟩
      obtain ⟨p_5, hp_5, qp_5⟩ := h0.at hx_4
      refine D_v E rfl rfl rfl (fun w hC => (R_idx E rfl rfl T22 hp_5 rfl)) ?_
      clear E a; intro a E
      refine D_v E rfl rfl rfl (fun w hC => (R_loadM E rfl Try.isAgg3 hC qp_5)) ?_
      clear E a; intro a E
      refine D_v E rfl rfl rfl (fun w hC => (R_move E rfl)) ?_
      clear E a; intro a E
      refine D_v E rfl rfl rfl (fun w hC => (R_move E rfl)) ?_
      clear E a; intro a E
      obtain ⟨x_6, hx_6⟩ : ∃ x, (l1)[k]? = some x := ⟨_, List.getElem?_eq_getElem (by first | omega | (simp; done) | (simp; omega) | (simp_all; omega))⟩
      obtain ⟨p_7, hp_7, qp_7⟩ := h1.at hx_6
      refine D_v E rfl rfl rfl (fun w hC => (R_idx E rfl rfl T22 hp_7 rfl)) ?_
      clear E a; intro a E
      refine D_v E rfl rfl rfl (fun w hC => (R_loadM E rfl Try.isAgg3 hC qp_7)) ?_
      clear E a; intro a E
      refine D_v E rfl rfl rfl (fun w hC => (R_neq E rfl rfl)) ?_
      clear E a; intro a E
      refine D_end (NoP_n ?_)
      refine T_n ?_
      refine WP_cond E rfl (fun hc_8 => ?_) (fun hc_8 => ?_)
      · replace hc_8 := of_decide_eq_true hc_8
        refine WP_seq ?_
        refine WP_region ?_
        refine S_v E rfl (R_assign E rfl) rfl ?_
        clear E a; intro a E
        refine WL_nil ?_
        refine T_n ?_
        refine WP_ret ?_
        refine B_r ?_
        refine T_r ?_
        refine T_r ?_
        refine B_r ?_
        refine T_r ?_
        exact F_ret1 E Try.results175 rfl ⟨_, rfl, M_2, hM_2, (bF (by ((try clear S); (try clear E); first | assumption | omega | rfl | (simp; done) | (simp_all; done) | (simp [List.take_add_one, *]; done) | grind [List.take_add_one]))), S⟩
      · replace hc_8 := of_decide_eq_false hc_8
        refine WP_skip ?_
        refine B_n ?_
        refine T_n ?_
        refine WP_region ?_
        refine S_v E rfl (R_addx (m := ((k + 1 : Nat) : Int)) E rfl rfl (by omega) (by omega)) rfl ?_
        clear E a; intro a E
        refine S_v E rfl (R_move E rfl) rfl ?_
        clear E a; intro a E
        refine WL_nil ?_
        refine T_n ?_
        exact ⟨k + 1, ⟨M_2, hM_2, S, E.keep ⟨rfl, rfl, rfl, rfl, trivial⟩, by ((try clear S); (try clear E); first | assumption | omega | rfl | (simp; done) | (simp_all; done) | (simp [List.take_add_one, *]; done) | grind [List.take_add_one]), by ((try clear S); (try clear E); first | assumption | omega | rfl | (simp; done) | (simp_all; done) | (simp [List.take_add_one, *]; done) | grind [List.take_add_one]), by ((try clear S); (try clear E); first | assumption | omega | rfl | (simp; done) | (simp_all; done) | (simp [List.take_add_one, *]; done) | grind [List.take_add_one])⟩, by omega⟩
    · replace hc_3 := of_decide_eq_false hc_3
      refine WP_exit ?_
      refine T_x ?_
      refine T_x ?_
      refine B_x ?_
      refine T_n ?_
      refine WP_seq ?_
      refine WP_region ?_
      refine S_v E rfl (R_assign E rfl) rfl ?_
      clear E a; intro a E
      refine WL_nil ?_
      refine T_n ?_
      refine WP_ret ?_
      exact F_ret1 E Try.results175 rfl ⟨_, rfl, M_2, hM_2, (bT (by ((try clear S); (try clear E); first | assumption | omega | rfl | (simp; done) | (simp_all; done) | (simp [List.take_add_one, *]; done) | grind [List.take_add_one]))), S⟩

set_option maxRecDepth 100000 in
set_option maxHeartbeats 4000000 in
theorem spec_ElementsMatchBy {M : Hp} {v0 v1 : Value} {l0 l1 : List Int} (h0 : RdI M v0 l0) (h1 : RdI M v1 l1){kk2 kn2 : Int} (gk2 : -9223372036854775808 ≤ kn2 ∧ kn2 ≤ 9223372036854775807) (hr0 : (∀ x ∈ l0, -9223372036854775808 ≤ x ∧ x ≤ 9223372036854775807)) (hr1 : (∀ x ∈ l1, -9223372036854775808 ≤ x ∧ x ≤ 9223372036854775807)) (hb : l0.length ≤ 1000000000000) (hb1 : l1.length ≤ 1000000000000) :
    Pu Try.prog (.func (.func 94) #[] #[]) M [v0, v1, .agg #[.int .i64 kk2, .int .i64 kn2]] (fun r M' => r = .bool (((l0).map (fun x => keyAt kk2 kn2 x 0)).isPerm ((l1).map (fun x => keyAt kk2 kn2 x 0)))) := by
  refine Pu_enter Try.func94 rfl Try.ntmps94 rfl Try.call94 ?_
  intro a w M1 H hM1 S E
  replace h0 := h0.le hM1
  replace h1 := h1.le hM1
  have b0 := h0.bound
  have b1 := h1.bound
  refine WP_seq ?_
  refine WP_region ?_
  refine S_x (X_box (cs := #[.int .i64 kk2, .int .i64 kn2]) E S rfl rfl rfl ?_)
  clear E a S; rintro a w b_1 E S
  obtain ⟨M_2, hM_2, hb_1, S⟩ := S.freezeB
  replace h0 := h0.le hM_2
  replace h1 := h1.le hM_2
  refine S_v E rfl (R_assign E rfl) rfl ?_
  clear E a; intro a E
  refine WL_nil ?_
  refine T_n ?_
  refine WP_seq ?_
  have hb_1k2 := hb_1
  replace S := S.mono_heap (w' := World.drew _) rfl
  refine WP_drawn (C := fun x w => agree M_2 w) (bf := (fun i => [])) [0, 1, 4, 5, 9] [0, 1, 4, 5, 2, 3, 6, 7, 8, 9] Try.mixed (by kernel_rfl) (fun x hq => S.imm) ?_
  refine D_v E rfl rfl rfl (fun w hC => (R_move E rfl)) ?_
  clear E a; intro a E
  refine D_v E rfl rfl rfl (fun w hC => (R_loadGM E rfl (Try.isAgg45 _) (Try.sizeOf45 _) hC hb_1k2)) ?_
  clear E a; intro a E
  refine D_v E rfl rfl rfl (fun w hC => (R_move E rfl)) ?_
  clear E a; intro a E
  refine D_v E rfl rfl rfl (fun w hC => (R_loadGM E rfl (Try.isAgg45 _) (Try.sizeOf45 _) hC hb_1k2)) ?_
  clear E a; intro a E
  refine D_x rfl rfl rfl (X_pu E S rfl rfl rfl (spec_keys h0 (by omega) (by first | assumption | exact (fun x hx => by rcases List.mem_append.1 hx with h | h; exact hr0 x h; exact hr1 x h)) (by (first | omega | (simp; omega) | (simp; done) | (simp_all; omega) | grind))) (Hp.le.refl _) ?_)
  clear E a S; rintro a v_4 w M_3 hM_3 hv_4 S E
  replace h0 := h0.le hM_3
  replace h1 := h1.le hM_3
  replace hb_1 := hM_3.2 _ _ hb_1
  refine ⟨fun x hq hb => (agree_le hM_3 S.imm), ?_⟩
  refine D_x rfl rfl rfl (X_pu E S rfl rfl rfl (spec_Sorted hv_4 (by (first | omega | (simp; omega) | (simp; done) | (simp_all; omega) | grind))) (Hp.le.refl _) ?_)
  clear E a S; rintro a v_6 w M_5 hM_5 hv_6 S E
  replace h0 := h0.le hM_5
  replace h1 := h1.le hM_5
  replace hb_1 := hM_5.2 _ _ hb_1
  replace hv_4 := hv_4.le hM_5
  refine ⟨fun x hq hb => (agree_le (hM_3.trans hM_5) S.imm), ?_⟩
  refine D_x rfl rfl rfl (X_pu E S rfl rfl rfl (spec_keys h1 (by omega) (by first | assumption | exact (fun x hx => by rcases List.mem_append.1 hx with h | h; exact hr0 x h; exact hr1 x h)) (by (first | omega | (simp; omega) | (simp; done) | (simp_all; omega) | grind))) (Hp.le.refl _) ?_)
  clear E a S; rintro a v_8 w M_7 hM_7 hv_8 S E
  replace h0 := h0.le hM_7
  replace h1 := h1.le hM_7
  replace hb_1 := hM_7.2 _ _ hb_1
  replace hv_4 := hv_4.le hM_7
  replace hv_6 := hv_6.le hM_7
  refine ⟨fun x hq hb => (agree_le (hM_3.trans (hM_5.trans hM_7)) S.imm), ?_⟩
  refine D_x rfl rfl rfl (X_pu E S rfl rfl rfl (spec_Sorted hv_8 (by (first | omega | (simp; omega) | (simp; done) | (simp_all; omega) | grind))) (Hp.le.refl _) ?_)
  clear E a S; rintro a v_10 w M_9 hM_9 hv_10 S E
  replace h0 := h0.le hM_9
  replace h1 := h1.le hM_9
  replace hb_1 := hM_9.2 _ _ hb_1
  replace hv_4 := hv_4.le hM_9
  replace hv_6 := hv_6.le hM_9
  replace hv_8 := hv_8.le hM_9
  refine ⟨fun x hq hb => (agree_le (hM_3.trans (hM_5.trans (hM_7.trans hM_9))) S.imm), ?_⟩
  refine D_x rfl rfl rfl (X_pu E S rfl rfl rfl (spec_Equal hv_6 hv_10) (Hp.le.refl _) ?_)
  clear E a S; rintro a _ w M_11 hM_11 rfl S E
  replace h0 := h0.le hM_11
  replace h1 := h1.le hM_11
  replace hb_1 := hM_11.2 _ _ hb_1
  replace hv_4 := hv_4.le hM_11
  replace hv_6 := hv_6.le hM_11
  replace hv_8 := hv_8.le hM_11
  replace hv_10 := hv_10.le hM_11
  refine ⟨fun x hq hb => (agree_le (hM_3.trans (hM_5.trans (hM_7.trans (hM_9.trans hM_11)))) S.imm), ?_⟩
  refine D_v E rfl rfl rfl (fun w hC => (R_assign E rfl)) ?_
  clear E a; intro a E
  refine D_end (NoP_n ?_)
  refine T_n ?_
  refine WP_ret ?_
  exact F_ret1 E Try.results94 rfl ⟨_, rfl, M_11, (hM_2.trans (hM_3.trans (hM_5.trans (hM_7.trans (hM_9.trans hM_11))))), (congrArg Value.bool (by (first | exact sortI_eq _ _ | exact (sortI_eq _ _).symm))), S⟩

set_option maxRecDepth 100000 in
set_option maxHeartbeats 4000000 in
theorem spec_ElementsMatch {M : Hp} {v0 v1 : Value} {l0 l1 : List Int} (h0 : RdI M v0 l0) (h1 : RdI M v1 l1) (hr0 : (∀ x ∈ l0, -9223372036854775808 ≤ x ∧ x ≤ 9223372036854775807)) (hr1 : (∀ x ∈ l1, -9223372036854775808 ≤ x ∧ x ≤ 9223372036854775807)) (hb : l0.length ≤ 1000000000000) (hb1 : l1.length ≤ 1000000000000) :
    Pu Try.prog (.func (.func 93) #[] #[]) M [v0, v1] (fun r M' => r = .bool ((l0).isPerm l1)) := by
  refine Pu_enter Try.func93 rfl Try.ntmps93 rfl Try.call93 ?_
  intro a w M1 H hM1 S E
  replace h0 := h0.le hM1
  replace h1 := h1.le hM1
  have b0 := h0.bound
  have b1 := h1.bound
  refine WP_seq ?_
  refine WP_region ?_
  refine S_v E rfl (R_assign E rfl) rfl ?_
  clear E a; intro a E
  refine WL_nil ?_
  refine T_n ?_
  refine WP_seq ?_
  refine WP_region ?_
  refine S_v E rfl (R_move E rfl) rfl ?_
  clear E a; intro a E
  refine S_v E rfl (R_move E rfl) rfl ?_
  clear E a; intro a E
  refine S_x (X_pu E S rfl rfl rfl (spec_same ) (Hp.le.refl _) ?_)
  clear E a S; rintro a _ w M_1 hM_1 rfl S E
  replace h0 := h0.le hM_1
  replace h1 := h1.le hM_1
  refine S_x (X_pu E S rfl rfl rfl (spec_ElementsMatchBy h0 h1 (by omega) (by first | assumption | exact hr0 | exact hr1) (by first | assumption | exact hr0 | exact hr1) (by (first | omega | (simp; omega) | (simp; done) | (simp_all; omega) | grind)) (by (first | omega | (simp; omega) | (simp; done) | (simp_all; omega) | grind))) (Hp.le.refl _) ?_)
  clear E a S; rintro a _ w M_2 hM_2 rfl S E
  replace h0 := h0.le hM_2
  replace h1 := h1.le hM_2
  refine S_v E rfl (R_assign E rfl) rfl ?_
  clear E a; intro a E
  refine WL_nil ?_
  refine T_n ?_
  refine WP_ret ?_
  exact F_ret1 E Try.results93 rfl ⟨_, rfl, M_2, (hM_1.trans hM_2), (congrArg Value.bool (by (simp only [map_key5]))), S⟩

set_option maxRecDepth 100000 in
set_option maxHeartbeats 4000000 in
theorem slices_Values1 {M : Hp} {v0 : Value} {l0 : List Int} (h0 : RdI M v0 l0){bx1 : Nat} (hbx1 : M bx1 = some (.cells #[v0] 22)) :
    SeqV Try.prog (.func (.func 187) #[] #[.pointer (some ⟨bx1, 0, none⟩)]) M (RInt) l0 := by
  refine SeqV_enter Try.func187 rfl Try.ntmps187 rfl Try.call187 ?_
  intro y J X a w M1 c H hJM hM1 hY hJ S E
  replace hbx1 := hM1.2 _ _ hbx1
  replace h0 := h0.le hM1
  have b0 := h0.bound
  refine WP_seq ?_
  refine WP_region ?_
  refine S_v E rfl (R_loadM E rfl Try.isAgg22 S.imm (cellM_box hbx1)) rfl ?_
  clear E a; intro a E
  refine S_v E rfl (R_lenV E rfl T22 h0.len) rfl ?_
  clear E a; intro a E
  refine S_v E rfl (R_move E rfl) rfl ?_
  clear E a; intro a E
  refine WL_nil ?_
  refine T_n ?_
  refine WP_block ?_
  refine WP_loop (γ := Nat) (fun (k : Nat) a w => ∃ (M_1 : Hp) (cL0 : HProp), Hp.le M1 M_1 ∧ St w M_1 (mks [] :: cL0 :: H) ∧ Env a 16 (([] : List Nat).map mk) [(0, y), (5, v0), (6, .int .i64 (((l0).length : Nat) : Int)), (7, .int .i64 ((k : Nat) : Int))] ∧ (k ≤ (l0).length) ∧ J (l0.take k) M_1 cL0) (fun k => ((l0).length) - k) 0 ⟨M1, _, Hp.le.refl _, S, E.keep ⟨rfl, rfl, rfl, rfl, trivial⟩, by ((try clear S); (try clear E); first | assumption | omega | rfl | (simp; done) | (simp_all; done) | (simp [List.take_add_one, *]; done) | grind [List.take_add_one]), J_eq hJ (by ((try clear S); (try clear E); first | assumption | omega | rfl | (simp; done) | (simp_all; done) | (simp [List.take_add_one, *]; done) | grind [List.take_add_one]))⟩ ?_
  try clear E
  try clear S
  try clear a
  try clear w
  rintro k a w ⟨M_1, cL0, hM_1, S, E, hL0_0, hJ⟩
  replace hbx1 := hM_1.2 _ _ hbx1
  replace h0 := h0.le hM_1
  refine WP_seq ?_
  refine WP_region ?_
  refine S_v E rfl (R_lss E rfl rfl) rfl ?_
  clear E a; intro a E
  refine WL_nil ?_
  refine T_n ?_
  refine WP_seq ?_
  refine WP_cond E rfl (fun hc_2 => ?_) (fun hc_2 => ?_)
  · replace hc_2 := of_decide_eq_true hc_2
    refine WP_skip ?_
    refine T_n ?_
    refine WP_seq ?_
    refine WP_block ?_
    refine WP_seq ?_
    refine WP_region ?_
    obtain ⟨x_3, hx_3⟩ : ∃ x, (l0)[k]? = some x := ⟨_, List.getElem?_eq_getElem (by first | omega | (simp; done) | (simp; omega) | (simp_all; omega))⟩
    obtain ⟨p_4, hp_4, qp_4⟩ := h0.at hx_3
    refine S_v E rfl (R_idx E rfl rfl T22 hp_4 rfl) rfl ?_
    clear E a; intro a E
    refine S_v E rfl (R_loadM E rfl Try.isAgg3 S.imm qp_4) rfl ?_
    clear E a; intro a E
    refine S_v E rfl (R_assign E rfl) rfl ?_
    clear E a; intro a E
    refine WL_nil ?_
    refine T_n ?_
    refine WP_seq ?_
    refine WP_region ?_
    refine S_v E rfl (R_move E rfl) rfl ?_
    clear E a; intro a E
    refine S_v E rfl (R_move E rfl) rfl ?_
    clear E a; intro a E
    replace S := S.front1
    refine S_x (X_yield (x := x_3) E S rfl rfl rfl hY hM_1 (by (first | (simp; done) | exact List.prefix_refl _ | (rw [pre_take (by assumption)]; exact List.take_prefix _ _) | exact pre_take_lt (by assumption))) rfl hJ ?_)
    clear E a S; rintro a w M_5 c_6 go_7 hM_5 hJ S E
    replace hbx1 := hM_5.2 _ _ hbx1
    replace h0 := h0.le hM_5
    cases go_7
    · replace hJ : X (l0.take k ++ [x_3]) M_5 c_6 := hJ
      refine S_v E rfl (R_not E rfl) rfl ?_
      clear E a; intro a E
      refine WL_nil ?_
      refine T_n ?_
      refine WP_condT E rfl rfl ?_
      refine WP_ret ?_
      refine B_r ?_
      refine T_r ?_
      refine T_r ?_
      refine B_r ?_
      replace S := S.front1
      exact F_retM0 E S Try.results187 (fun w S => ⟨_, rfl, M_5, _, (hM_1.trans hM_5), .inr ⟨(l0.take k ++ [x_3]), (by first | assumption | ((first | (simp; done) | exact List.prefix_refl _ | (rw [pre_take (by assumption)]; exact List.take_prefix _ _) | exact pre_take_lt (by assumption)))), hJ⟩, S⟩)
    · replace hJ : J (l0.take k ++ [x_3]) M_5 c_6 := hJ
      refine S_v E rfl (R_not E rfl) rfl ?_
      clear E a; intro a E
      refine WL_nil ?_
      refine T_n ?_
      refine WP_condF E rfl rfl ?_
      refine WP_skip ?_
      refine B_n ?_
      refine T_n ?_
      refine WP_region ?_
      refine S_v E rfl (R_addx (m := ((k + 1 : Nat) : Int)) E rfl rfl (by omega) (by omega)) rfl ?_
      clear E a; intro a E
      refine S_v E rfl (R_move E rfl) rfl ?_
      clear E a; intro a E
      refine WL_nil ?_
      refine T_n ?_
      replace S := S.front1
      exact ⟨k + 1, ⟨M_5, _, (hM_1.trans hM_5), S, E.keep ⟨rfl, rfl, rfl, rfl, trivial⟩, by ((try clear S); (try clear E); first | assumption | omega | rfl | (simp; done) | (simp_all; done) | (simp [List.take_add_one, *]; done) | grind [List.take_add_one]), J_eq hJ (by ((try clear S); (try clear E); first | assumption | omega | rfl | (simp; done) | (simp_all; done) | (simp [List.take_add_one, *]; done) | grind [List.take_add_one]))⟩, by omega⟩
  · replace hc_2 := of_decide_eq_false hc_2
    refine WP_exit ?_
    refine T_x ?_
    refine T_x ?_
    refine B_x ?_
    refine F_nrm ?_
    replace S := S.front1
    replace S := S.front1
    have hpre : l0.take k = l0 := by ((try clear S); (try clear E); first | rfl | (simp; done) | (simp_all; done) | grind [List.take_add_one])
    rw [hpre] at hJ
    exact F_retM0 E S Try.results187 (fun w S => ⟨_, rfl, M_1, _, hM_1, .inl hJ, S⟩)

set_option maxRecDepth 100000 in
set_option maxHeartbeats 4000000 in
theorem slices_Values {M : Hp} {v0 : Value} {l0 : List Int} (h0 : RdI M v0 l0) :
    Pu Try.prog (.func (.func 111) #[] #[]) M [v0] (fun r M' => SeqV Try.prog r M' RInt l0) := by
  refine Pu_enter Try.func111 rfl Try.ntmps111 rfl Try.call111 ?_
  intro a w M1 H hM1 S E
  replace h0 := h0.le hM1
  have b0 := h0.bound
  refine WP_seq ?_
  refine WP_region ?_
  refine S_x (X_box (cs := #[v0]) E S rfl rfl (cells_one (RdS.one' h0)) ?_)
  clear E a S; rintro a w b_1 E S
  obtain ⟨M_2, hM_2, hb_1, S⟩ := S.freezeB
  replace h0 := h0.le hM_2
  refine S_v E rfl (R_assign E rfl) rfl ?_
  clear E a; intro a E
  refine WL_nil ?_
  refine T_n ?_
  refine WP_seq ?_
  refine WP_region ?_
  refine S_v E rfl (R_makeFunc E rfl rfl) rfl ?_
  clear E a; intro a E
  refine S_v E rfl (R_assign E rfl) rfl ?_
  clear E a; intro a E
  refine WL_nil ?_
  refine T_n ?_
  refine WP_ret ?_
  exact F_ret1 E Try.results111 rfl ⟨_, rfl, M_2, hM_2, (SeqV_eq (slices_Values1 h0 hb_1) (by ((try clear S); (try clear E); first | rfl | (simp; done) | (simp_all; done) | grind [List.take_add_one]))), S⟩

set_option maxRecDepth 100000 in
set_option maxHeartbeats 4000000 in
theorem it_ElementsMatchBy {M : Hp} {v0 : Value} {l0 : List Int} (h0 : SeqV Try.prog v0 M (RInt) l0){v1 : Value} {l1 : List Int} (h1 : SeqV Try.prog v1 M RInt l1) {v2 : Value} {f2 : Int → Int} (h2 : PF1I Try.prog v2 M f2)(hb : l0.length ≤ 1000000000000) (hb1 : l1.length ≤ 1000000000000) :
    Pu Try.prog (.func (.func 180) #[] #[]) M [v0, v1, v2] (fun r M' => r = .bool (((l0).map f2).isPerm ((l1).map f2))) := by
  refine Pu_enter Try.func180 rfl Try.ntmps180 rfl Try.call180 ?_
  intro a w M1 H hM1 S E
  replace h0 := h0.le hM1
  replace h1 := h1.le hM1
  replace h2 := h2.le hM1
  replace S : St w M1 (mks [] :: _) := S.empty
  replace E : Env a 37 (([] : List Nat).map mk) _ := E
  refine WP_seq ?_
  refine WP_region ?_
  refine S_x (X_box (cs := #[v2]) E S rfl rfl (cells_one h2.1) ?_)
  clear E a S; rintro a w b_1 E S
  obtain ⟨M_2, hM_2, hb_1, S⟩ := S.freezeB
  replace h0 := h0.le hM_2
  replace h1 := h1.le hM_2
  replace h2 := h2.le hM_2
  refine S_v E rfl (R_assign E rfl) rfl ?_
  clear E a; intro a E
  refine WL_nil ?_
  refine T_n ?_
  refine WP_seq ?_
  refine WP_region ?_
  refine S_x (X_makeMap E S rfl ?_)
  clear E a S; rintro a w b_3 E S
  replace S : St w M_2 (OwnE (Value.int .i64) b_3 ([] : List (Int × Int)) :: _) := S
  refine S_x (X_alloc (cs := #[.map none]) E S rfl Try.zeroValue159 rfl ?_)
  clear E a S; rintro a w b_4 E S
  refine S_x0 (X_store E S rfl rfl (Try.sizeOf159 _) rfl ?_)
  clear E a S; rintro a w E S
  refine WL_nil ?_
  refine T_n ?_
  refine WP_seq ?_
  refine WP_seq ?_
  refine WP_region ?_
  refine S_v E rfl (R_move E rfl) rfl ?_
  clear E a; intro a E
  refine WL_nil ?_
  refine T_n ?_
  refine WP_block ?_
  replace S := S.front1
  replace S := S.front1
  replace E := E.keep (l' := [(1, v1), (5, .pointer (some ⟨b_1, 0, none⟩)), (7, .pointer (some ⟨b_4, 0, none⟩)), (13, v0)]) ⟨rfl, rfl, rfl, rfl, trivial⟩
  replace S := S.front1
  replace S := S.reM (L' := (encE (Value.int .i64) (upM f2 [] (([] : List Int))))) (congrArg (encE (Value.int .i64)) (show ([] : List (Int × Int)) = upM f2 [] (([] : List Int)) by first | (simp [upM]; done) | (rw [upM_app])))
  replace S := S.front1
  have S0 := S; clear S; have S := St.pack [blk b_4 (.cells #[.map (some b_3)] 159), OwnE (Value.int .i64) b_3 (upM f2 [] (([] : List Int)))] S0; clear S0
  refine WP_range (RV := RInt) (l := l0) (fun pre M c => c = bigs [blk b_4 (.cells #[.map (some b_3)] 159), OwnE (Value.int .i64) b_3 (upM f2 [] (pre))]) (fun _ _ _ _ => False) E S rfl h0 (Hp.le.refl _) (fun _ _ _ h => by rw [h]; rfl) (by decide) (by rintro _ M M' c hM rfl; exact rfl) rfl ?_ ?_ ?_
  clear E S
  · rintro lb_6 rec_7 pre x _ a w M_5 _ G hM_5 hp_8 rfl rfl E S
    replace E : Env a 37 [] [(14, .int .i64 x), (1, v1), (5, .pointer (some ⟨b_1, 0, none⟩)), (7, .pointer (some ⟨b_4, 0, none⟩)), (13, v0)] := E
    replace S := S.swap.unpack2
    have hq0 := prefix_lt hp_8
    replace h0 := h0.le hM_5
    replace h1 := h1.le hM_5
    replace h2 := h2.le hM_5
    replace hb_1 := hM_5.2 _ _ hb_1
    have hpl := hp_8.length_le; simp at hpl; have hbd := upM_bnd f2 (l := pre) (by omega)
    refine WP_region ?_
    refine S_v E rfl (R_assign E rfl) rfl ?_
    clear E a; intro a E
    refine WL_nil ?_
    refine T_n ?_
    replace S := S.front2
    refine rb S ?_
    clear S; intro w S
    refine WP_block ?_
    have hb_1k9 := hb_1
    replace S := S.mono_heap (w' := World.drew _) rfl
    refine WP_drawn (C := fun x w => agree M_5 w ∧ (x = 0 → w.heap[b_4]? = some (.cells #[.map (some b_3)] 159))) (bf := (fun i => bif Nat.beq i 3 then [] else bif Nat.beq i 4 then [0] else bif Nat.beq i 6 then [0] else [])) [0, 1, 2, 5] [0, 1, 2, 3, 4, 5, 6] Try.mixed (by kernel_rfl) (fun x hq => ⟨S.imm, fun _ => (S.mem (.tail _ (.head _)))⟩) ?_
    refine D_v E rfl rfl rfl (fun w hC => (R_load E rfl (Try.isAgg159 _) (cell_blk (hC.2 rfl)))) ?_
    clear E a; intro a E
    refine D_v E rfl rfl rfl (fun w hC => (R_loadM E rfl Try.isAgg109 hC.1 (cellM_box hb_1k9))) ?_
    clear E a; intro a E
    refine D_v E rfl rfl rfl (fun w hC => (R_move E rfl)) ?_
    clear E a; intro a E
    refine D_x rfl rfl rfl (X_pu E S rfl rfl rfl (h2.2 x) (Hp.le.refl _) ?_)
    clear E a S; rintro a _ w M_10 hM_10 rfl S E
    replace h0 := h0.le hM_10
    replace h1 := h1.le hM_10
    replace h2 := h2.le hM_10
    replace hb_1 := hM_10.2 _ _ hb_1
    refine ⟨fun x hq hb => ⟨(agree_le hM_10 S.imm), (fun _ => (S.mem (.tail _ (.head _))))⟩, ?_⟩
    replace S := S.front2
    refine D_x rfl rfl rfl (X_lookupE1 (vf := (Value.int .i64)) (zb := (0 : Int)) E S rfl MT159 rfl rfl ?_)
    clear E a S; rintro a w E S
    replace S : St w M_10 (OwnE (Value.int .i64) b_3 (upM f2 [] (pre)) :: _) := S
    refine ⟨fun x hq hb => ⟨(agree_le hM_10 S.imm), (fun e => by subst e; exact absurd hb (by decide))⟩, ?_⟩
    refine D_v E rfl rfl rfl (fun w hC => (R_addx (m := (getK (0 : Int) (upM f2 [] (pre)) (f2 x)) + 1) E rfl rfl (by first | rfl | exact add1_in (hbd _)) (by first | rfl | exact add1_in (hbd _)))) ?_
    clear E a; intro a E
    refine D_x rfl rfl rfl (X_updateE (vf := (Value.int .i64)) (u := (getK (0 : Int) (upM f2 [] (pre)) (f2 x)) + 1) E S MT159 rfl rfl rfl ?_)
    clear E a S; rintro a w E S
    refine ⟨fun x hq hb => ⟨(agree_le hM_10 S.imm), (fun e => by subst e; exact absurd hb (by decide))⟩, ?_⟩
    refine D_end (NoP_n ?_)
    refine B_n ?_
    replace S := S.front2
    replace S := S.front1
    replace S := S.reM (L' := (encE (Value.int .i64) (upM f2 [] ((pre ++ [x]))))) (congrArg (encE (Value.int .i64)) (show putK (upM f2 [] (pre)) (f2 x) ((getK (0 : Int) (upM f2 [] (pre)) (f2 x)) + 1) = upM f2 [] ((pre ++ [x])) by first | (simp [upM]; done) | (rw [upM_app])))
    replace S := S.front1
    have S0 := S; clear S; have S := (St.pack [blk b_4 (.cells #[.map (some b_3)] 159), OwnE (Value.int .i64) b_3 (upM f2 [] ((pre ++ [x])))] S0).swap; clear S0
    exact ⟨M_10, _, hM_10, rfl, S⟩
  · rintro a w M_11 _ D_12 hM_11 rfl S E
    replace S := S.unpack2
    replace h0 := h0.le hM_11
    replace h1 := h1.le hM_11
    replace h2 := h2.le hM_11
    replace hb_1 := hM_11.2 _ _ hb_1
    refine B_n ?_
    refine T_n ?_
    refine WP_seq ?_
    refine WP_seq ?_
    refine WP_region ?_
    refine S_v E rfl (R_move E rfl) rfl ?_
    clear E a; intro a E
    refine WL_nil ?_
    refine T_n ?_
    refine WP_block ?_
    replace S := S.front1
    replace S := S.front1
    replace E := E.keep (l' := [(5, .pointer (some ⟨b_1, 0, none⟩)), (7, .pointer (some ⟨b_4, 0, none⟩)), (21, v1)]) ⟨rfl, rfl, rfl, trivial⟩
    replace S := S.front1
    replace S := S.reM (L' := (encE (Value.int .i64) (dnM f2 (upM f2 [] l0) (([] : List Int))))) (congrArg (encE (Value.int .i64)) (show upM f2 [] (l0) = dnM f2 (upM f2 [] l0) (([] : List Int)) by first | (simp [dnM]; done) | (rw [dnM_app])))
    replace S := S.front1
    have S0 := S; clear S; have S := St.pack [blk b_4 (.cells #[.map (some b_3)] 159), OwnE (Value.int .i64) b_3 (dnM f2 (upM f2 [] l0) (([] : List Int)))] S0; clear S0
    refine WP_range (RV := RInt) (l := l1) (fun pre M c => c = bigs [blk b_4 (.cells #[.map (some b_3)] 159), OwnE (Value.int .i64) b_3 (dnM f2 (upM f2 [] l0) (pre))]) (fun _ _ _ _ => False) E S rfl h1 (Hp.le.refl _) (fun _ _ _ h => by rw [h]; rfl) (by decide) (by rintro _ M M' c hM rfl; exact rfl) rfl ?_ ?_ ?_
    clear E S
    · rintro lb_14 rec_15 pre x _ a w M_13 _ G hM_13 hp_16 rfl rfl E S
      replace E : Env a 37 [] [(22, .int .i64 x), (5, .pointer (some ⟨b_1, 0, none⟩)), (7, .pointer (some ⟨b_4, 0, none⟩)), (21, v1)] := E
      replace S := S.swap.unpack2
      have hq1 := prefix_lt hp_16
      replace h0 := h0.le hM_13
      replace h1 := h1.le hM_13
      replace h2 := h2.le hM_13
      replace hb_1 := hM_13.2 _ _ hb_1
      have hpl := hp_16.length_le; simp at hpl; have hbd := dnM_bnd f2 (l := l0) (l' := pre) (by omega) (by omega)
      refine WP_region ?_
      refine S_v E rfl (R_assign E rfl) rfl ?_
      clear E a; intro a E
      refine WL_nil ?_
      refine T_n ?_
      replace S := S.front2
      refine rb S ?_
      clear S; intro w S
      refine WP_block ?_
      have hb_1k17 := hb_1
      replace S := S.mono_heap (w' := World.drew _) rfl
      refine WP_drawn (C := fun x w => agree M_13 w ∧ (x = 0 → w.heap[b_4]? = some (.cells #[.map (some b_3)] 159))) (bf := (fun i => bif Nat.beq i 3 then [] else bif Nat.beq i 4 then [0] else bif Nat.beq i 6 then [0] else [])) [0, 1, 2, 5] [0, 1, 2, 3, 4, 5, 6] Try.mixed (by kernel_rfl) (fun x hq => ⟨S.imm, fun _ => (S.mem (.tail _ (.head _)))⟩) ?_
      refine D_v E rfl rfl rfl (fun w hC => (R_load E rfl (Try.isAgg159 _) (cell_blk (hC.2 rfl)))) ?_
      clear E a; intro a E
      refine D_v E rfl rfl rfl (fun w hC => (R_loadM E rfl Try.isAgg109 hC.1 (cellM_box hb_1k17))) ?_
      clear E a; intro a E
      refine D_v E rfl rfl rfl (fun w hC => (R_move E rfl)) ?_
      clear E a; intro a E
      refine D_x rfl rfl rfl (X_pu E S rfl rfl rfl (h2.2 x) (Hp.le.refl _) ?_)
      clear E a S; rintro a _ w M_18 hM_18 rfl S E
      replace h0 := h0.le hM_18
      replace h1 := h1.le hM_18
      replace h2 := h2.le hM_18
      replace hb_1 := hM_18.2 _ _ hb_1
      refine ⟨fun x hq hb => ⟨(agree_le hM_18 S.imm), (fun _ => (S.mem (.tail _ (.head _))))⟩, ?_⟩
      replace S := S.front2
      refine D_x rfl rfl rfl (X_lookupE1 (vf := (Value.int .i64)) (zb := (0 : Int)) E S rfl MT159 rfl rfl ?_)
      clear E a S; rintro a w E S
      replace S : St w M_18 (OwnE (Value.int .i64) b_3 (dnM f2 (upM f2 [] l0) (pre)) :: _) := S
      refine ⟨fun x hq hb => ⟨(agree_le hM_18 S.imm), (fun e => by subst e; exact absurd hb (by decide))⟩, ?_⟩
      refine D_v E rfl rfl rfl (fun w hC => (R_subx (m := (getK (0 : Int) (dnM f2 (upM f2 [] l0) (pre)) (f2 x)) - 1) E rfl rfl (by first | rfl | exact sub1_in (hbd _)) (by first | rfl | exact sub1_in (hbd _)))) ?_
      clear E a; intro a E
      refine D_x rfl rfl rfl (X_updateE (vf := (Value.int .i64)) (u := (getK (0 : Int) (dnM f2 (upM f2 [] l0) (pre)) (f2 x)) - 1) E S MT159 rfl rfl rfl ?_)
      clear E a S; rintro a w E S
      refine ⟨fun x hq hb => ⟨(agree_le hM_18 S.imm), (fun e => by subst e; exact absurd hb (by decide))⟩, ?_⟩
      refine D_end (NoP_n ?_)
      refine B_n ?_
      replace S := S.front2
      replace S := S.front1
      replace S := S.reM (L' := (encE (Value.int .i64) (dnM f2 (upM f2 [] l0) ((pre ++ [x]))))) (congrArg (encE (Value.int .i64)) (show putK (dnM f2 (upM f2 [] l0) (pre)) (f2 x) ((getK (0 : Int) (dnM f2 (upM f2 [] l0) (pre)) (f2 x)) - 1) = dnM f2 (upM f2 [] l0) ((pre ++ [x])) by first | (simp [dnM]; done) | (rw [dnM_app])))
      replace S := S.front1
      have S0 := S; clear S; have S := (St.pack [blk b_4 (.cells #[.map (some b_3)] 159), OwnE (Value.int .i64) b_3 (dnM f2 (upM f2 [] l0) ((pre ++ [x])))] S0).swap; clear S0
      exact ⟨M_18, _, hM_18, rfl, S⟩
    · rintro a w M_19 _ D_20 hM_19 rfl S E
      replace S := S.unpack2
      replace h0 := h0.le hM_19
      replace h1 := h1.le hM_19
      replace h2 := h2.le hM_19
      replace hb_1 := hM_19.2 _ _ hb_1
      refine B_n ?_
      refine T_n ?_
      refine WP_seq ?_
      refine WP_seq ?_
      refine WP_region ?_
      refine S_v E rfl (R_load E rfl (Try.isAgg159 _) (cell_blk (S.mem (.head _)))) rfl ?_
      clear E a; intro a E
      replace S := S.front1
      have S0 := S; clear S
      obtain ⟨M_21, hM_21, hm_22, S⟩ := S0.freezeM
      clear S0
      replace h0 := h0.le hM_21
      replace h1 := h1.le hM_21
      replace h2 := h2.le hM_21
      replace hb_1 := hM_21.2 _ _ hb_1
      refine S_x (X_range E S rfl MT159 hm_22 rfl ?_)
      clear E a S; rintro a w i_23 es_24 ck_25 E hf_26 S
      replace S : St w M_21 (ItO (.map (some b_3)) es_24 ck_25 i_23 (encE (Value.int .i64) ([] : List (Int × Int))) :: _) := S
      refine WL_nil ?_
      refine T_n ?_
      refine WP_block ?_
      replace S := S.reIt (p' := (encE (Value.int .i64) [])) (congrArg (encE (Value.int .i64)) (show ([] : List (Int × Int)) = [] by ((try clear S); (try clear E); first | assumption | omega | rfl | (simp; done) | (simp_all; done) | (simp [List.take_add_one, *]; done) | grind [List.take_add_one])))
      refine WP_loop (γ := List (Int × Int)) (fun (p : List (Int × Int)) a w => ∃ (M_27 : Hp), Hp.le M_21 M_27 ∧ St w M_27 (ItO (.map (some b_3)) es_24 ck_25 i_23 (encE (Value.int .i64) p) :: blk b_4 (.cells #[.map (some b_3)] 159) :: mks (D_20 :: (D_12 :: [])) :: H) ∧ Env a 37 ((D_20 :: (D_12 :: [])).map mk) [(30, .pointer (some ⟨i_23, 0, none⟩))] ∧ ((p.map Prod.fst).Nodup) ∧ (∀ z ∈ p, z ∈ dnM f2 (upM f2 [] l0) l1) ∧ (∀ z ∈ p, z.2 = 0)) (fun p => (dnM f2 (upM f2 [] l0) l1).length - p.length) [] ⟨M_21, Hp.le.refl _, S, E.keep ⟨rfl, trivial⟩, (by simp), (by simp), (by simp)⟩ ?_
      try clear E
      try clear S
      try clear a
      try clear w
      rintro p a w ⟨M_27, hM_27, S, E, hL2_0, hL2_1, hL2_2⟩
      replace h0 := h0.le hM_27
      replace h1 := h1.le hM_27
      replace h2 := h2.le hM_27
      replace hb_1 := hM_27.2 _ _ hb_1
      replace hm_22 := hm_22.le hM_27
      replace hf_26 := hf_26.le hM_27
      refine WP_seq ?_
      refine WP_region ?_
      refine S_x (X_nextE (vf := (Value.int .i64)) E S rfl hf_26 rfl (by assumption) (by assumption) ?_ ?_)
      · clear E a S; rintro a E hpm_28 S
        refine S_v E rfl (R_extract E rfl rfl) rfl ?_
        clear E a; intro a E
        refine WL_nil ?_
        refine T_n ?_
        refine WP_seq ?_
        refine WP_condF E rfl rfl ?_
        refine WP_exit ?_
        refine T_x ?_
        refine T_x ?_
        refine B_x ?_
        refine T_n ?_
        refine WP_seq ?_
        refine WP_region ?_
        refine S_v E rfl (R_assign E rfl) rfl ?_
        clear E a; intro a E
        refine WL_nil ?_
        refine T_n ?_
        refine WP_ret ?_
        replace S := S.drop
        replace S := S.drop
        exact F_retM1 E S Try.results180 rfl (fun w S => ⟨_, rfl, M_27, (hM_2.trans (hM_11.trans (hM_19.trans (hM_21.trans hM_27)))), (congrArg Value.bool (by (have h9 := em_yes (by assumption) hL2_2; first | exact h9 | exact h9.symm))), S⟩)
      · clear E a S w; rintro a w k_29 u_31 E hk_30 hk_30n hk_30l S
        refine S_v E rfl (R_extract E rfl rfl) rfl ?_
        clear E a; intro a E
        refine WL_nil ?_
        refine T_n ?_
        refine WP_seq ?_
        refine WP_condT E rfl rfl ?_
        refine WP_skip ?_
        refine T_n ?_
        refine WP_block ?_
        refine WP_seq ?_
        refine WP_region ?_
        refine S_v E rfl (R_entry (k := k_29) (v := .int .i64 u_31) E (by have S1 := S; simp only [encE, List.map_append, List.map_cons, List.map_nil] at S1; exact S1) hf_26 rfl) rfl ?_
        clear E a; intro a E
        refine S_v E rfl (R_extract E rfl rfl) rfl ?_
        clear E a; intro a E
        refine S_v E rfl (R_assign E rfl) rfl ?_
        clear E a; intro a E
        refine WL_nil ?_
        refine T_n ?_
        refine WP_seq ?_
        refine WP_region ?_
        refine S_v E rfl (R_move E rfl) rfl ?_
        clear E a; intro a E
        refine S_v E rfl (R_neq E rfl rfl) rfl ?_
        clear E a; intro a E
        refine WL_nil ?_
        refine T_n ?_
        refine WP_cond E rfl (fun hc_32 => ?_) (fun hc_32 => ?_)
        · replace hc_32 := of_decide_eq_true hc_32
          refine WP_seq ?_
          refine WP_region ?_
          refine S_v E rfl (R_assign E rfl) rfl ?_
          clear E a; intro a E
          refine WL_nil ?_
          refine T_n ?_
          refine WP_ret ?_
          refine B_r ?_
          refine T_r ?_
          refine B_r ?_
          refine T_r ?_
          replace S := S.drop
          replace S := S.drop
          exact F_retM1 E S Try.results180 rfl (fun w S => ⟨_, rfl, M_27, (hM_2.trans (hM_11.trans (hM_19.trans (hM_21.trans hM_27)))), (congrArg Value.bool (by (have h9 := em_no (by assumption) (by assumption); first | exact h9 | exact h9.symm))), S⟩)
        · replace hc_32 := of_decide_eq_false hc_32
          refine WP_skip ?_
          refine B_n ?_
          refine T_n ?_
          replace S := S.reIt (p' := (encE (Value.int .i64) (p ++ [(k_29, u_31)]))) (congrArg (encE (Value.int .i64)) (show p ++ [(k_29, u_31)] = (p ++ [(k_29, u_31)]) by ((try clear S); (try clear E); first | assumption | omega | rfl | (simp; done) | (simp_all; done) | (simp [List.take_add_one, *]; done) | grind [List.take_add_one])))
          exact ⟨(p ++ [(k_29, u_31)]), ⟨M_27, hM_27, S, E.keep ⟨rfl, trivial⟩, (by exact snoc_nodup (by assumption) (by assumption)), (by exact snoc_sub (by assumption) (by assumption)), (by exact snoc_zero (by assumption) (by omega))⟩, (by simp; omega)⟩
    · rintro _ _ _ _ _ _ _ _ _ hX; exact hX.elim
  · rintro _ _ _ _ _ _ _ _ _ hX; exact hX.elim

set_option maxRecDepth 100000 in
set_option maxHeartbeats 4000000 in
theorem it_ElementsMatch1 {M : Hp} {x0 : Int} :
    Pu Try.prog (.func (.func 213) #[] #[]) M [.int .i64 x0] (fun r M' => r = .int .i64 x0) := by
  refine Pu_enter Try.func213 rfl Try.ntmps213 rfl Try.call213 ?_
  intro a w M1 H hM1 S E
  refine WP_seq ?_
  refine WP_region ?_
  refine S_v E rfl (R_assign E rfl) rfl ?_
  clear E a; intro a E
  refine WL_nil ?_
  refine T_n ?_
  refine WP_seq ?_
  refine WP_region ?_
  refine S_v E rfl (R_move E rfl) rfl ?_
  clear E a; intro a E
  refine S_v E rfl (R_assign E rfl) rfl ?_
  clear E a; intro a E
  refine WL_nil ?_
  refine T_n ?_
  refine WP_ret ?_
  exact F_ret1 E Try.results213 rfl ⟨_, rfl, M1, (Hp.le.refl _), rfl, S⟩

set_option maxRecDepth 100000 in
set_option maxHeartbeats 4000000 in
theorem it_ElementsMatch {M : Hp} {v0 : Value} {l0 : List Int} (h0 : SeqV Try.prog v0 M (RInt) l0){v1 : Value} {l1 : List Int} (h1 : SeqV Try.prog v1 M RInt l1) (hb : l0.length ≤ 1000000000000) (hb1 : l1.length ≤ 1000000000000) :
    Pu Try.prog (.func (.func 178) #[] #[]) M [v0, v1] (fun r M' => r = .bool ((l0).isPerm l1)) := by
  refine Pu_enter Try.func178 rfl Try.ntmps178 rfl Try.call178 ?_
  intro a w M1 H hM1 S E
  replace h0 := h0.le hM1
  replace h1 := h1.le hM1
  refine WP_seq ?_
  refine WP_region ?_
  refine S_v E rfl (R_assign E rfl) rfl ?_
  clear E a; intro a E
  refine WL_nil ?_
  refine T_n ?_
  refine WP_seq ?_
  refine WP_region ?_
  refine S_v E rfl (R_move E rfl) rfl ?_
  clear E a; intro a E
  refine S_v E rfl (R_move E rfl) rfl ?_
  clear E a; intro a E
  refine S_x (X_pu E S rfl rfl rfl (it_ElementsMatchBy h0 h1 ⟨rfl, fun zx0 => it_ElementsMatch1 (x0 := zx0) ⟩ (by (first | omega | (simp; omega) | (simp; done) | (simp_all; omega) | grind)) (by (first | omega | (simp; omega) | (simp; done) | (simp_all; omega) | grind))) (Hp.le.refl _) ?_)
  clear E a S; rintro a _ w M_1 hM_1 rfl S E
  replace h0 := h0.le hM_1
  replace h1 := h1.le hM_1
  refine S_v E rfl (R_assign E rfl) rfl ?_
  clear E a; intro a E
  refine WL_nil ?_
  refine T_n ?_
  refine WP_ret ?_
  exact F_ret1 E Try.results178 rfl ⟨_, rfl, M_1, hM_1, (congrArg Value.bool (by (first | rfl | (simp; done) | (rw [List.map_id', List.map_id']; done) | simp [List.map_id']))), S⟩

set_option maxRecDepth 100000 in
set_option maxHeartbeats 4000000 in
theorem impl_ElementsMatchSeq {M : Hp} {v0 v1 : Value} {l0 l1 : List Int} (h0 : RdI M v0 l0) (h1 : RdI M v1 l1) (hb : l0.length ≤ 1000000000000) (hb1 : l1.length ≤ 1000000000000) :
    Pu Try.prog (.func (.func 95) #[] #[]) M [v0, v1] (fun r M' => r = .bool ((l0).isPerm l1)) := by
  refine Pu_enter Try.func95 rfl Try.ntmps95 rfl Try.call95 ?_
  intro a w M1 H hM1 S E
  replace h0 := h0.le hM1
  replace h1 := h1.le hM1
  have b0 := h0.bound
  have b1 := h1.bound
  refine WP_seq ?_
  refine WP_region ?_
  refine S_v E rfl (R_assign E rfl) rfl ?_
  clear E a; intro a E
  refine WL_nil ?_
  refine T_n ?_
  refine WP_seq ?_
  refine WP_region ?_
  refine S_v E rfl (R_move E rfl) rfl ?_
  clear E a; intro a E
  refine S_x (X_pu E S rfl rfl rfl (slices_Values h0) (Hp.le.refl _) ?_)
  clear E a S; rintro a v_2 w M_1 hM_1 hv_2 S E
  replace h0 := h0.le hM_1
  replace h1 := h1.le hM_1
  refine S_v E rfl (R_move E rfl) rfl ?_
  clear E a; intro a E
  refine S_x (X_pu E S rfl rfl rfl (slices_Values h1) (Hp.le.refl _) ?_)
  clear E a S; rintro a v_4 w M_3 hM_3 hv_4 S E
  replace h0 := h0.le hM_3
  replace h1 := h1.le hM_3
  replace hv_2 := hv_2.le hM_3
  refine S_x (X_pu E S rfl rfl rfl (it_ElementsMatch hv_2 hv_4 (by (first | omega | (simp; omega) | (simp; done) | (simp_all; omega) | grind)) (by (first | omega | (simp; omega) | (simp; done) | (simp_all; omega) | grind))) (Hp.le.refl _) ?_)
  clear E a S; rintro a _ w M_5 hM_5 rfl S E
  replace h0 := h0.le hM_5
  replace h1 := h1.le hM_5
  replace hv_2 := hv_2.le hM_5
  replace hv_4 := hv_4.le hM_5
  refine S_v E rfl (R_assign E rfl) rfl ?_
  clear E a; intro a E
  refine WL_nil ?_
  refine T_n ?_
  refine WP_ret ?_
  exact F_ret1 E Try.results95 rfl ⟨_, rfl, M_5, (hM_1.trans (hM_3.trans hM_5)), rfl, S⟩

set_option maxRecDepth 100000 in
set_option maxHeartbeats 4000000 in
theorem impl_mod {M : Hp} {x0 x1 : Int} (hn : x1 ≠ 0) (g1 : -9223372036854775808 ≤ x1 ∧ x1 ≤ 9223372036854775807) :
    Pu Try.prog (.func (.func 191) #[] #[]) M [.int .i64 x0, .int .i64 x1] (fun r M' => r = .int .i64 (x0 % x1)) := by
  refine Pu_enter Try.func191 rfl Try.ntmps191 rfl Try.call191 ?_
  intro a w M1 H hM1 S E
  have ht := tmod_emod x0 x1 hn
  refine WP_seq ?_
  refine WP_region ?_
  refine S_v E rfl (R_assign E rfl) rfl ?_
  clear E a; intro a E
  refine WL_nil ?_
  refine T_n ?_
  refine WP_seq ?_
  refine WP_region ?_
  refine S_v E rfl (R_move E rfl) rfl ?_
  clear E a; intro a E
  refine S_v E rfl (R_move E rfl) rfl ?_
  clear E a; intro a E
  refine S_v E rfl (R_rem E rfl rfl (by first | decide | omega)) rfl ?_
  clear E a; intro a E
  refine S_v E rfl (R_assign E rfl) rfl ?_
  clear E a; intro a E
  refine WL_nil ?_
  refine T_n ?_
  refine WP_seq ?_
  refine WP_seq ?_
  refine WP_region ?_
  refine S_v E rfl (R_move E rfl) rfl ?_
  clear E a; intro a E
  refine S_v E rfl (R_lss E rfl rfl) rfl ?_
  clear E a; intro a E
  refine WL_nil ?_
  refine T_n ?_
  refine WP_cond E rfl (fun hc_1 => ?_) (fun hc_1 => ?_)
  · replace hc_1 := of_decide_eq_true hc_1
    refine WP_seq ?_
    refine WP_seq ?_
    refine WP_region ?_
    refine S_v E rfl (R_move E rfl) rfl ?_
    clear E a; intro a E
    refine S_v E rfl (R_lss E rfl rfl) rfl ?_
    clear E a; intro a E
    refine WL_nil ?_
    refine T_n ?_
    refine WP_cond E rfl (fun hc_2 => ?_) (fun hc_2 => ?_)
    · replace hc_2 := of_decide_eq_true hc_2
      refine WP_seq ?_
      refine WP_region ?_
      refine S_v E rfl (R_move E rfl) rfl ?_
      clear E a; intro a E
      refine S_v E rfl (R_move E rfl) rfl ?_
      clear E a; intro a E
      refine S_v E rfl (R_subx (m := (Int.tmod x0 x1) - x1) E rfl rfl (by omega) (by omega)) rfl ?_
      clear E a; intro a E
      refine S_v E rfl (R_assign E rfl) rfl ?_
      clear E a; intro a E
      refine WL_nil ?_
      refine T_n ?_
      refine WP_ret ?_
      refine T_r ?_
      refine T_r ?_
      exact F_ret1 E Try.results191 rfl ⟨_, rfl, M1, (Hp.le.refl _), (congrArg (Value.int .i64) (by omega)), S⟩
    · replace hc_2 := of_decide_eq_false hc_2
      refine WP_skip ?_
      refine T_n ?_
      refine WP_seq ?_
      refine WP_region ?_
      refine S_v E rfl (R_move E rfl) rfl ?_
      clear E a; intro a E
      refine S_v E rfl (R_move E rfl) rfl ?_
      clear E a; intro a E
      refine S_v E rfl (R_addx (m := (Int.tmod x0 x1) + x1) E rfl rfl (by omega) (by omega)) rfl ?_
      clear E a; intro a E
      refine S_v E rfl (R_assign E rfl) rfl ?_
      clear E a; intro a E
      refine WL_nil ?_
      refine T_n ?_
      refine WP_ret ?_
      refine T_r ?_
      exact F_ret1 E Try.results191 rfl ⟨_, rfl, M1, (Hp.le.refl _), (congrArg (Value.int .i64) (by omega)), S⟩
  · replace hc_1 := of_decide_eq_false hc_1
    refine WP_skip ?_
    refine T_n ?_
    refine WP_seq ?_
    refine WP_region ?_
    refine S_v E rfl (R_move E rfl) rfl ?_
    clear E a; intro a E
    refine S_v E rfl (R_assign E rfl) rfl ?_
    clear E a; intro a E
    refine WL_nil ?_
    refine T_n ?_
    refine WP_ret ?_
    exact F_ret1 E Try.results191 rfl ⟨_, rfl, M1, (Hp.le.refl _), (congrArg (Value.int .i64) (by omega)), S⟩

set_option maxRecDepth 100000 in
set_option maxHeartbeats 4000000 in
theorem Key_at_c {M : Hp} {kk0 kn0 : Int} (gk0 : -9223372036854775808 ≤ kn0 ∧ kn0 ≤ 9223372036854775807){x1 x2 : Int} :
    PuC Try.prog 121 M [.agg #[.int .i64 kk0, .int .i64 kn0], .int .i64 x1, .int .i64 x2] (fun r M' => r = .int .i64 (keyAt kk0 kn0 x1 x2)) := by
  refine PuC_enter Try.func121 rfl Try.ntmps121 rfl ?_
  intro a w M1 H hM1 S E
  refine WP_seq ?_
  refine WP_region ?_
  refine S_x (X_box (cs := #[.int .i64 kk0, .int .i64 kn0]) E S rfl rfl rfl ?_)
  clear E a S; rintro a w b_1 E S
  obtain ⟨M_2, hM_2, hb_1, S⟩ := S.freezeB
  refine S_v E rfl (R_assign E rfl) rfl ?_
  clear E a; intro a E
  refine WL_nil ?_
  refine T_n ?_
  refine WP_seq ?_
  refine WP_seq ?_
  refine WP_region ?_
  refine S_v E rfl (R_fieldAddr E rfl (FA37_0 _)) rfl ?_
  clear E a; intro a E
  refine S_v E rfl (R_loadM E rfl Try.isAgg3 S.imm (cellM_boxo hb_1 rfl)) rfl ?_
  clear E a; intro a E
  refine WL_nil ?_
  refine T_n ?_
  refine WP_block ?_
  refine WP_seq ?_
  refine WP_region ?_
  refine S_v E rfl (R_eql E rfl rfl) rfl ?_
  clear E a; intro a E
  refine S_v E rfl (R_assign E rfl) rfl ?_
  clear E a; intro a E
  refine WL_nil ?_
  refine T_n ?_
  refine WP_cond E rfl (fun hc_3 => ?_) (fun hc_3 => ?_)
  · replace hc_3 := of_decide_eq_true hc_3
    refine WP_seq ?_
    refine WP_region ?_
    refine S_v E rfl (R_move E rfl) rfl ?_
    clear E a; intro a E
    refine S_v E rfl (R_fieldAddr E rfl (FA37_1 _)) rfl ?_
    clear E a; intro a E
    refine S_v E rfl (R_loadM E rfl Try.isAgg3 S.imm (cellM_boxo hb_1 rfl)) rfl ?_
    clear E a; intro a E
    refine S_v E rfl (R_add E rfl rfl) rfl ?_
    clear E a; intro a E
    refine S_v E rfl (R_assign E rfl) rfl ?_
    clear E a; intro a E
    refine WL_nil ?_
    refine T_n ?_
    refine WP_ret ?_
    refine B_r ?_
    refine T_r ?_
    exact F_ret1 E Try.results121 rfl ⟨_, rfl, M_2, hM_2, (congrArg (Value.int .i64) (by (clear E S; unfold keyAt w64; first | (simp [*]; done) | (simp_all; done)))), S⟩
  · replace hc_3 := of_decide_eq_false hc_3
    refine WP_seq ?_
    refine WP_region ?_
    refine S_v E rfl (R_eql E rfl rfl) rfl ?_
    clear E a; intro a E
    refine S_v E rfl (R_assign E rfl) rfl ?_
    clear E a; intro a E
    refine WL_nil ?_
    refine T_n ?_
    refine WP_cond E rfl (fun hc_4 => ?_) (fun hc_4 => ?_)
    · replace hc_4 := of_decide_eq_true hc_4
      refine WP_seq ?_
      refine WP_region ?_
      refine S_v E rfl (R_move E rfl) rfl ?_
      clear E a; intro a E
      refine S_v E rfl (R_fieldAddr E rfl (FA37_1 _)) rfl ?_
      clear E a; intro a E
      refine S_v E rfl (R_loadM E rfl Try.isAgg3 S.imm (cellM_boxo hb_1 rfl)) rfl ?_
      clear E a; intro a E
      refine S_v E rfl (R_mul E rfl rfl) rfl ?_
      clear E a; intro a E
      refine S_v E rfl (R_assign E rfl) rfl ?_
      clear E a; intro a E
      refine WL_nil ?_
      refine T_n ?_
      refine WP_ret ?_
      refine B_r ?_
      refine T_r ?_
      exact F_ret1 E Try.results121 rfl ⟨_, rfl, M_2, hM_2, (congrArg (Value.int .i64) (by (clear E S; unfold keyAt w64; first | (simp [*]; done) | (simp_all; done)))), S⟩
    · replace hc_4 := of_decide_eq_false hc_4
      refine WP_seq ?_
      refine WP_region ?_
      refine S_v E rfl (R_eql E rfl rfl) rfl ?_
      clear E a; intro a E
      refine S_v E rfl (R_assign E rfl) rfl ?_
      clear E a; intro a E
      refine WL_nil ?_
      refine T_n ?_
      refine WP_cond E rfl (fun hc_5 => ?_) (fun hc_5 => ?_)
      · replace hc_5 := of_decide_eq_true hc_5
        refine WP_seq ?_
        refine WP_region ?_
        refine S_v E rfl (R_fieldAddr E rfl (FA37_1 _)) rfl ?_
        clear E a; intro a E
        refine S_v E rfl (R_loadM E rfl Try.isAgg3 S.imm (cellM_boxo hb_1 rfl)) rfl ?_
        clear E a; intro a E
        refine S_v E rfl (R_neq E rfl rfl) rfl ?_
        clear E a; intro a E
        refine WL_nil ?_
        refine T_n ?_
        refine WP_cond E rfl (fun hc_6 => ?_) (fun hc_6 => ?_)
        · replace hc_6 := of_decide_eq_true hc_6
          refine WP_seq ?_
          refine WP_region ?_
          refine S_v E rfl (R_move E rfl) rfl ?_
          clear E a; intro a E
          refine S_v E rfl (R_fieldAddr E rfl (FA37_1 _)) rfl ?_
          clear E a; intro a E
          refine S_v E rfl (R_loadM E rfl Try.isAgg3 S.imm (cellM_boxo hb_1 rfl)) rfl ?_
          clear E a; intro a E
          refine S_x (X_pu E S rfl rfl rfl (impl_mod (by first | omega | assumption) (by omega)) (Hp.le.refl _) ?_)
          clear E a S; rintro a _ w M_7 hM_7 rfl S E
          replace hb_1 := hM_7.2 _ _ hb_1
          refine S_v E rfl (R_assign E rfl) rfl ?_
          clear E a; intro a E
          refine WL_nil ?_
          refine T_n ?_
          refine WP_ret ?_
          refine B_r ?_
          refine T_r ?_
          exact F_ret1 E Try.results121 rfl ⟨_, rfl, M_7, (hM_2.trans hM_7), (congrArg (Value.int .i64) (by (clear E S; unfold keyAt w64; first | (simp [*]; done) | (simp_all; done)))), S⟩
        · replace hc_6 := of_decide_eq_false hc_6
          refine WP_skip ?_
          refine B_n ?_
          refine T_n ?_
          refine WP_seq ?_
          refine WP_region ?_
          refine S_v E rfl (R_move E rfl) rfl ?_
          clear E a; intro a E
          refine S_v E rfl (R_assign E rfl) rfl ?_
          clear E a; intro a E
          refine WL_nil ?_
          refine T_n ?_
          refine WP_ret ?_
          exact F_ret1 E Try.results121 rfl ⟨_, rfl, M_2, hM_2, (congrArg (Value.int .i64) (by (clear E S; unfold keyAt w64; first | (simp [*]; done) | (simp_all; done)))), S⟩
      · replace hc_5 := of_decide_eq_false hc_5
        refine WP_seq ?_
        refine WP_region ?_
        refine S_v E rfl (R_eql E rfl rfl) rfl ?_
        clear E a; intro a E
        refine S_v E rfl (R_assign E rfl) rfl ?_
        clear E a; intro a E
        refine WL_nil ?_
        refine T_n ?_
        refine WP_cond E rfl (fun hc_8 => ?_) (fun hc_8 => ?_)
        · replace hc_8 := of_decide_eq_true hc_8
          refine WP_seq ?_
          refine WP_region ?_
          refine S_v E rfl (R_fieldAddr E rfl (FA37_1 _)) rfl ?_
          clear E a; intro a E
          refine S_v E rfl (R_loadM E rfl Try.isAgg3 S.imm (cellM_boxo hb_1 rfl)) rfl ?_
          clear E a; intro a E
          refine S_v E rfl (R_assign E rfl) rfl ?_
          clear E a; intro a E
          refine WL_nil ?_
          refine T_n ?_
          refine WP_ret ?_
          refine B_r ?_
          refine T_r ?_
          exact F_ret1 E Try.results121 rfl ⟨_, rfl, M_2, hM_2, (congrArg (Value.int .i64) (by (clear E S; unfold keyAt w64; first | (simp [*]; done) | (simp_all; done)))), S⟩
        · replace hc_8 := of_decide_eq_false hc_8
          refine WP_seq ?_
          refine WP_region ?_
          refine S_v E rfl (R_eql E rfl rfl) rfl ?_
          clear E a; intro a E
          refine S_v E rfl (R_assign E rfl) rfl ?_
          clear E a; intro a E
          refine WL_nil ?_
          refine T_n ?_
          refine WP_cond E rfl (fun hc_9 => ?_) (fun hc_9 => ?_)
          · replace hc_9 := of_decide_eq_true hc_9
            refine WP_seq ?_
            refine WP_region ?_
            refine S_v E rfl (R_move E rfl) rfl ?_
            clear E a; intro a E
            refine S_v E rfl (R_assign E rfl) rfl ?_
            clear E a; intro a E
            refine WL_nil ?_
            refine T_n ?_
            refine WP_ret ?_
            refine B_r ?_
            refine T_r ?_
            exact F_ret1 E Try.results121 rfl ⟨_, rfl, M_2, hM_2, (congrArg (Value.int .i64) (by (clear E S; unfold keyAt w64; first | (simp [*]; done) | (simp_all; done)))), S⟩
          · replace hc_9 := of_decide_eq_false hc_9
            refine WP_skip ?_
            refine B_n ?_
            refine T_n ?_
            refine WP_seq ?_
            refine WP_region ?_
            refine S_v E rfl (R_move E rfl) rfl ?_
            clear E a; intro a E
            refine S_v E rfl (R_assign E rfl) rfl ?_
            clear E a; intro a E
            refine WL_nil ?_
            refine T_n ?_
            refine WP_ret ?_
            exact F_ret1 E Try.results121 rfl ⟨_, rfl, M_2, hM_2, (congrArg (Value.int .i64) (by (clear E S; unfold keyAt w64; first | (simp [*]; done) | (simp_all; done)))), S⟩
theorem Key_at {M : Hp} {kk0 kn0 : Int} (gk0 : -9223372036854775808 ≤ kn0 ∧ kn0 ≤ 9223372036854775807){x1 x2 : Int} :
    Pu Try.prog (.func (.func 121) #[.agg #[.int .i64 kk0, .int .i64 kn0]] #[]) M [.int .i64 x1, .int .i64 x2] (fun r M' => r = .int .i64 (keyAt kk0 kn0 x1 x2)) := PuC.pu Try.call121 rfl (Key_at_c gk0)
theorem Key_at_d {M : Hp} {kk0 kn0 : Int} (gk0 : -9223372036854775808 ≤ kn0 ∧ kn0 ≤ 9223372036854775807){x1 x2 : Int} :
    Pu Try.prog (.func (.func 121) #[] #[]) M [.agg #[.int .i64 kk0, .int .i64 kn0], .int .i64 x1, .int .i64 x2] (fun r M' => r = .int .i64 (keyAt kk0 kn0 x1 x2)) := PuC.pu Try.call121 rfl (Key_at_c gk0)

set_option maxRecDepth 100000 in
set_option maxHeartbeats 4000000 in
theorem Key_of_c {M : Hp} {kk0 kn0 : Int} (gk0 : -9223372036854775808 ≤ kn0 ∧ kn0 ≤ 9223372036854775807){x1 : Int} :
    PuC Try.prog 128 M [.agg #[.int .i64 kk0, .int .i64 kn0], .int .i64 x1] (fun r M' => r = .int .i64 (keyAt kk0 kn0 x1 0)) := by
  refine PuC_enter Try.func128 rfl Try.ntmps128 rfl ?_
  intro a w M1 H hM1 S E
  refine WP_seq ?_
  refine WP_region ?_
  refine S_x (X_box (cs := #[.int .i64 kk0, .int .i64 kn0]) E S rfl rfl rfl ?_)
  clear E a S; rintro a w b_1 E S
  obtain ⟨M_2, hM_2, hb_1, S⟩ := S.freezeB
  refine S_v E rfl (R_assign E rfl) rfl ?_
  clear E a; intro a E
  refine WL_nil ?_
  refine T_n ?_
  refine WP_seq ?_
  refine WP_region ?_
  refine S_v E rfl (R_loadGM E rfl (Try.isAgg37 _) (Try.sizeOf37 _) S.imm hb_1) rfl ?_
  clear E a; intro a E
  refine S_v E rfl (R_move E rfl) rfl ?_
  clear E a; intro a E
  refine S_x (X_pu E S rfl rfl rfl (Key_at_d (by omega)) (Hp.le.refl _) ?_)
  clear E a S; rintro a _ w M_3 hM_3 rfl S E
  replace hb_1 := hM_3.2 _ _ hb_1
  refine S_v E rfl (R_assign E rfl) rfl ?_
  clear E a; intro a E
  refine WL_nil ?_
  refine T_n ?_
  refine WP_ret ?_
  exact F_ret1 E Try.results128 rfl ⟨_, rfl, M_3, (hM_2.trans hM_3), rfl, S⟩
theorem Key_of {M : Hp} {kk0 kn0 : Int} (gk0 : -9223372036854775808 ≤ kn0 ∧ kn0 ≤ 9223372036854775807){x1 : Int} :
    Pu Try.prog (.func (.func 128) #[.agg #[.int .i64 kk0, .int .i64 kn0]] #[]) M [.int .i64 x1] (fun r M' => r = .int .i64 (keyAt kk0 kn0 x1 0)) := PuC.pu Try.call128 rfl (Key_of_c gk0)
theorem Key_of_d {M : Hp} {kk0 kn0 : Int} (gk0 : -9223372036854775808 ≤ kn0 ∧ kn0 ≤ 9223372036854775807){x1 : Int} :
    Pu Try.prog (.func (.func 128) #[] #[]) M [.agg #[.int .i64 kk0, .int .i64 kn0], .int .i64 x1] (fun r M' => r = .int .i64 (keyAt kk0 kn0 x1 0)) := PuC.pu Try.call128 rfl (Key_of_c gk0)

set_option maxRecDepth 100000 in
set_option maxHeartbeats 4000000 in
theorem impl_ElementsMatchBy {M : Hp} {v0 v1 : Value} {l0 l1 : List Int} (h0 : RdI M v0 l0) (h1 : RdI M v1 l1){kk2 kn2 : Int} (gk2 : -9223372036854775808 ≤ kn2 ∧ kn2 ≤ 9223372036854775807) :
    Pu Try.prog (.func (.func 96) #[] #[]) M [v0, v1, .agg #[.int .i64 kk2, .int .i64 kn2]] (fun r M' => r = .bool (((l0).map (fun x => keyAt kk2 kn2 x 0)).isPerm ((l1).map (fun x => keyAt kk2 kn2 x 0)))) := by
  refine Pu_enter Try.func96 rfl Try.ntmps96 rfl Try.call96 ?_
  intro a w M1 H hM1 S E
  replace h0 := h0.le hM1
  replace h1 := h1.le hM1
  have b0 := h0.bound
  have b1 := h1.bound
  refine WP_seq ?_
  refine WP_region ?_
  refine S_x (X_box (cs := #[.int .i64 kk2, .int .i64 kn2]) E S rfl rfl rfl ?_)
  clear E a S; rintro a w b_1 E S
  obtain ⟨M_2, hM_2, hb_1, S⟩ := S.freezeB
  replace h0 := h0.le hM_2
  replace h1 := h1.le hM_2
  refine S_v E rfl (R_assign E rfl) rfl ?_
  clear E a; intro a E
  refine WL_nil ?_
  refine T_n ?_
  refine WP_seq ?_
  refine WP_region ?_
  refine S_v E rfl (R_move E rfl) rfl ?_
  clear E a; intro a E
  refine S_v E rfl (R_move E rfl) rfl ?_
  clear E a; intro a E
  refine S_v E rfl (R_loadGM E rfl (Try.isAgg37 _) (Try.sizeOf37 _) S.imm hb_1) rfl ?_
  clear E a; intro a E
  refine S_v E rfl (R_makeFunc E rfl rfl) rfl ?_
  clear E a; intro a E
  refine S_x (X_pu E S rfl rfl rfl (lo_ElementsMatchBy h0 h1 ⟨rfl, fun zx1 => Key_of (x1 := zx1) (by omega)⟩) (Hp.le.refl _) ?_)
  clear E a S; rintro a _ w M_3 hM_3 rfl S E
  replace h0 := h0.le hM_3
  replace h1 := h1.le hM_3
  replace hb_1 := hM_3.2 _ _ hb_1
  refine S_v E rfl (R_assign E rfl) rfl ?_
  clear E a; intro a E
  refine WL_nil ?_
  refine T_n ?_
  refine WP_ret ?_
  exact F_ret1 E Try.results96 rfl ⟨_, rfl, M_3, (hM_2.trans hM_3), rfl, S⟩

set_option maxRecDepth 100000 in
set_option maxHeartbeats 4000000 in
theorem impl_ElementsMatchBySeq {M : Hp} {v0 v1 : Value} {l0 l1 : List Int} (h0 : RdI M v0 l0) (h1 : RdI M v1 l1){kk2 kn2 : Int} (gk2 : -9223372036854775808 ≤ kn2 ∧ kn2 ≤ 9223372036854775807) (hb : l0.length ≤ 1000000000000) (hb1 : l1.length ≤ 1000000000000) :
    Pu Try.prog (.func (.func 97) #[] #[]) M [v0, v1, .agg #[.int .i64 kk2, .int .i64 kn2]] (fun r M' => r = .bool (((l0).map (fun x => keyAt kk2 kn2 x 0)).isPerm ((l1).map (fun x => keyAt kk2 kn2 x 0)))) := by
  refine Pu_enter Try.func97 rfl Try.ntmps97 rfl Try.call97 ?_
  intro a w M1 H hM1 S E
  replace h0 := h0.le hM1
  replace h1 := h1.le hM1
  have b0 := h0.bound
  have b1 := h1.bound
  refine WP_seq ?_
  refine WP_region ?_
  refine S_x (X_box (cs := #[.int .i64 kk2, .int .i64 kn2]) E S rfl rfl rfl ?_)
  clear E a S; rintro a w b_1 E S
  obtain ⟨M_2, hM_2, hb_1, S⟩ := S.freezeB
  replace h0 := h0.le hM_2
  replace h1 := h1.le hM_2
  refine S_v E rfl (R_assign E rfl) rfl ?_
  clear E a; intro a E
  refine WL_nil ?_
  refine T_n ?_
  refine WP_seq ?_
  have hb_1k2 := hb_1
  replace S := S.mono_heap (w' := World.drew _) rfl
  refine WP_drawn (C := fun x w => agree M_2 w) (bf := (fun i => [])) [0, 2, 4, 5, 7] [0, 2, 4, 5, 1, 3, 6, 7] Try.mixed (by kernel_rfl) (fun x hq => S.imm) ?_
  refine D_v E rfl rfl rfl (fun w hC => (R_move E rfl)) ?_
  clear E a; intro a E
  refine D_v E rfl rfl rfl (fun w hC => (R_move E rfl)) ?_
  clear E a; intro a E
  refine D_v E rfl rfl rfl (fun w hC => (R_loadGM E rfl (Try.isAgg37 _) (Try.sizeOf37 _) hC hb_1k2)) ?_
  clear E a; intro a E
  refine D_v E rfl rfl rfl (fun w hC => (R_makeFunc E rfl rfl)) ?_
  clear E a; intro a E
  refine D_x rfl rfl rfl (X_pu E S rfl rfl rfl (slices_Values h0) (Hp.le.refl _) ?_)
  clear E a S; rintro a v_4 w M_3 hM_3 hv_4 S E
  replace h0 := h0.le hM_3
  replace h1 := h1.le hM_3
  replace hb_1 := hM_3.2 _ _ hb_1
  refine ⟨fun x hq hb => (agree_le hM_3 S.imm), ?_⟩
  refine D_x rfl rfl rfl (X_pu E S rfl rfl rfl (slices_Values h1) (Hp.le.refl _) ?_)
  clear E a S; rintro a v_6 w M_5 hM_5 hv_6 S E
  replace h0 := h0.le hM_5
  replace h1 := h1.le hM_5
  replace hb_1 := hM_5.2 _ _ hb_1
  replace hv_4 := hv_4.le hM_5
  refine ⟨fun x hq hb => (agree_le (hM_3.trans hM_5) S.imm), ?_⟩
  refine D_x rfl rfl rfl (X_pu E S rfl rfl rfl (it_ElementsMatchBy hv_4 hv_6 ⟨rfl, fun zx1 => Key_of (x1 := zx1) (by omega)⟩ (by (first | omega | (simp; omega) | (simp; done) | (simp_all; omega) | grind)) (by (first | omega | (simp; omega) | (simp; done) | (simp_all; omega) | grind))) (Hp.le.refl _) ?_)
  clear E a S; rintro a _ w M_7 hM_7 rfl S E
  replace h0 := h0.le hM_7
  replace h1 := h1.le hM_7
  replace hb_1 := hM_7.2 _ _ hb_1
  replace hv_4 := hv_4.le hM_7
  replace hv_6 := hv_6.le hM_7
  refine ⟨fun x hq hb => (agree_le (hM_3.trans (hM_5.trans hM_7)) S.imm), ?_⟩
  refine D_v E rfl rfl rfl (fun w hC => (R_assign E rfl)) ?_
  clear E a; intro a E
  refine D_end (NoP_n ?_)
  refine T_n ?_
  refine WP_ret ?_
  exact F_ret1 E Try.results97 rfl ⟨_, rfl, M_7, (hM_2.trans (hM_3.trans (hM_5.trans hM_7))), rfl, S⟩

set_option maxRecDepth 100000 in
set_option maxHeartbeats 4000000 in
theorem laws_FnMatches {M : Hp} {v0 v1 : Value} {l0 l1 : List Int} (h0 : RdI M v0 l0) (h1 : RdI M v1 l1){v2 : Value} {l2 : List Int} (h2 : RdW8 M v2 l2) {kk3 kn3 : Int} (gk3 : -9223372036854775808 ≤ kn3 ∧ kn3 ≤ 9223372036854775807) (hr0 : (∀ x ∈ l0, -9223372036854775808 ≤ x ∧ x ≤ 9223372036854775807)) (hr1 : (∀ x ∈ l1, -9223372036854775808 ≤ x ∧ x ≤ 9223372036854775807)) :
    PuC Try.prog 13 M [v0, v1, v2, .agg #[.int .i64 kk3, .int .i64 kn3]] (fun r M' => r = .bool true) := by
  refine PuC_enter Try.func13 rfl Try.ntmps13 rfl ?_
  intro a w M1 H hM1 S E
  replace h0 := h0.le hM1
  replace h1 := h1.le hM1
  replace h2 := h2.le hM1
  have b0 := h0.bound
  have b1 := h1.bound
  refine WP_seq ?_
  refine WP_region ?_
  refine S_x (X_box (cs := #[.int .i64 kk3, .int .i64 kn3]) E S rfl rfl rfl ?_)
  clear E a S; rintro a w b_1 E S
  obtain ⟨M_2, hM_2, hb_1, S⟩ := S.freezeB
  replace h0 := h0.le hM_2
  replace h1 := h1.le hM_2
  replace h2 := h2.le hM_2
  refine S_v E rfl (R_assign E rfl) rfl ?_
  clear E a; intro a E
  refine WL_nil ?_
  refine T_n ?_
  refine WP_seq ?_
  refine WP_seq ?_
  refine WP_region ?_
  refine S_v E rfl (R_move E rfl) rfl ?_
  clear E a; intro a E
  refine S_v E rfl (R_lenV E rfl T22 h0.len) rfl ?_
  clear E a; intro a E
  refine S_v E rfl (R_gtr E rfl rfl) rfl ?_
  clear E a; intro a E
  refine S_v E rfl (R_move E rfl) rfl ?_
  clear E a; intro a E
  refine split_bool (decide (2147483647 < (((l0).length : Nat) : Int))) (fun hc_3 => ?_) (fun hc_3 => ?_)
  · replace E := E.val (t := 19) rfl hc_3
    replace E := E.val (t := 20) rfl hc_3
    replace hc_3 := of_decide_eq_true hc_3
    refine WL_guard_no E rfl rfl rfl rfl fun a E => ?_
    refine WL_guard_no E rfl rfl rfl rfl fun a E => ?_
    refine WL_guard_no E rfl rfl rfl rfl fun a E => ?_
    refine S_v E rfl (R_pickT E rfl rfl) rfl ?_
    clear E a; intro a E
    refine S_v E rfl (R_move E rfl) rfl ?_
    clear E a; intro a E
    refine WL_guard_no E rfl rfl rfl rfl fun a E => ?_
    refine WL_guard_no E rfl rfl rfl rfl fun a E => ?_
    refine WL_guard_no E rfl rfl rfl rfl fun a E => ?_
    refine S_v E rfl (R_pickT E rfl rfl) rfl ?_
    clear E a; intro a E
    refine WL_nil ?_
    refine T_n ?_
    refine WP_condT E rfl rfl ?_
    refine WP_seq ?_
    refine WP_region ?_
    refine S_v E rfl (R_assign E rfl) rfl ?_
    clear E a; intro a E
    refine WL_nil ?_
    refine T_n ?_
    refine WP_ret ?_
    refine T_r ?_
    exact F_ret1 E Try.results13 rfl ⟨_, rfl, M_2, hM_2, rfl, S⟩
  · replace E := E.val (t := 19) rfl hc_3
    replace E := E.val (t := 20) rfl hc_3
    replace hc_3 := of_decide_eq_false hc_3
    refine WL_guard_yes E rfl rfl ?_
    refine S_v E rfl (R_move E rfl) rfl ?_
    clear E a; intro a E
    refine WL_guard_yes E rfl rfl ?_
    refine S_v E rfl (R_lenV E rfl T22 h1.len) rfl ?_
    clear E a; intro a E
    refine WL_guard_yes E rfl rfl ?_
    refine S_v E rfl (R_gtr E rfl rfl) rfl ?_
    clear E a; intro a E
    refine S_v E rfl (R_pickF E rfl rfl) rfl ?_
    clear E a; intro a E
    refine S_v E rfl (R_move E rfl) rfl ?_
    clear E a; intro a E
    refine split_bool (decide (2147483647 < (((l1).length : Nat) : Int))) (fun hc_4 => ?_) (fun hc_4 => ?_)
    · replace E := E.val (t := 23) rfl hc_4
      replace E := E.val (t := 24) rfl hc_4
      replace E := E.val (t := 25) rfl hc_4
      replace hc_4 := of_decide_eq_true hc_4
      refine WL_guard_no E rfl rfl rfl rfl fun a E => ?_
      refine WL_guard_no E rfl rfl rfl rfl fun a E => ?_
      refine WL_guard_no E rfl rfl rfl rfl fun a E => ?_
      refine S_v E rfl (R_pickT E rfl rfl) rfl ?_
      clear E a; intro a E
      refine WL_nil ?_
      refine T_n ?_
      refine WP_condT E rfl rfl ?_
      refine WP_seq ?_
      refine WP_region ?_
      refine S_v E rfl (R_assign E rfl) rfl ?_
      clear E a; intro a E
      refine WL_nil ?_
      refine T_n ?_
      refine WP_ret ?_
      refine T_r ?_
      exact F_ret1 E Try.results13 rfl ⟨_, rfl, M_2, hM_2, rfl, S⟩
    · replace E := E.val (t := 23) rfl hc_4
      replace E := E.val (t := 24) rfl hc_4
      replace E := E.val (t := 25) rfl hc_4
      replace hc_4 := of_decide_eq_false hc_4
      refine WL_guard_yes E rfl rfl ?_
      refine S_v E rfl (R_move E rfl) rfl ?_
      clear E a; intro a E
      refine WL_guard_yes E rfl rfl ?_
      refine S_v E rfl (R_lenV E rfl T77 h2.len) rfl ?_
      clear E a; intro a E
      refine WL_guard_yes E rfl rfl ?_
      refine S_v E rfl (R_gtr E rfl rfl) rfl ?_
      clear E a; intro a E
      refine S_v E rfl (R_pickF E rfl rfl) rfl ?_
      clear E a; intro a E
      refine WL_nil ?_
      refine T_n ?_
      refine WP_cond E rfl (fun hc_5 => ?_) (fun hc_5 => ?_)
      · replace hc_5 := of_decide_eq_true hc_5
        refine WP_seq ?_
        refine WP_region ?_
        refine S_v E rfl (R_assign E rfl) rfl ?_
        clear E a; intro a E
        refine WL_nil ?_
        refine T_n ?_
        refine WP_ret ?_
        refine T_r ?_
        exact F_ret1 E Try.results13 rfl ⟨_, rfl, M_2, hM_2, rfl, S⟩
      · replace hc_5 := of_decide_eq_false hc_5
        refine WP_skip ?_
        refine T_n ?_
        refine WP_seq ?_
        refine WP_seq ?_
        refine WP_region ?_
        refine S_x (X_pu E S rfl rfl rfl (impl_ElementsMatch (RdS.nil _) (RdS.nil _)) (Hp.le.refl _) ?_)
        clear E a S; rintro a _ w M_6 hM_6 rfl S E
        replace h0 := h0.le hM_6
        replace h1 := h1.le hM_6
        replace h2 := h2.le hM_6
        replace hb_1 := hM_6.2 _ _ hb_1
        refine S_v E rfl (R_not E rfl) rfl ?_
        clear E a; intro a E
        refine WL_nil ?_
        refine T_n ?_
        have hc_7 : (!((([] : List Int)).isPerm ([] : List Int))) = false := by (clear E S; first | (simp only [same_isPerm, key0_map hr0, key0_map hr1]; simp; done) | (simp; done) | decide | (simp [same_isPerm]; done) | (rw [same_isPerm]; simp; done) | (simp only [same_isPerm]; first | done | rfl | simp) | (have h9 := List.isPerm_iff.2 hL0_1.symm; simp [h9]; done))
        refine WP_condF E rfl hc_7 ?_
        refine WP_skip ?_
        refine T_n ?_
        refine WP_seq ?_
        refine WP_seq ?_
        refine WP_region ?_
        refine S_v E rfl (R_move E rfl) rfl ?_
        clear E a; intro a E
        refine S_v E rfl (R_move E rfl) rfl ?_
        clear E a; intro a E
        refine S_x (X_buildM (R := RSl 1 RInt) (vs := [v0, v1]) (xs := [l0, l1]) (RSl_mono RInt_mono) E S rfl T95 rfl rfl rfl (by intro u hu; simp only [List.mem_cons, List.not_mem_nil, or_false] at hu; rcases hu with rfl | rfl <;> first | exact RdI.one h0 | exact RdI.one h1 | rfl) rfl (rowsC (R := RSl 1 RInt) (RdI.row h0) (rowsC (R := RSl 1 RInt) (RdI.row h1) rowsN)) ?_)
        clear E a S; rintro a v_8 w M_9 hM_9 hv_8 S E
        replace hv_8 : RdII M_9 v_8 [l0, l1] := hv_8
        replace h0 := h0.le hM_9
        replace h1 := h1.le hM_9
        replace h2 := h2.le hM_9
        replace hb_1 := hM_9.2 _ _ hb_1
        refine S_x (X_pu E S rfl rfl rfl (laws_few hv_8) (Hp.le.refl _) ?_)
        clear E a S; rintro a _ w M_10 hM_10 rfl S E
        replace h0 := h0.le hM_10
        replace h1 := h1.le hM_10
        replace h2 := h2.le hM_10
        replace hb_1 := hM_10.2 _ _ hb_1
        replace hv_8 := hv_8.le hM_10
        refine S_v E rfl (R_not E rfl) rfl ?_
        clear E a; intro a E
        refine S_v E rfl (R_move E rfl) rfl ?_
        clear E a; intro a E
        refine split_bool (!(decide (∀ x ∈ [l0, l1], x.length ≤ 300))) (fun hc_11 => ?_) (fun hc_11 => ?_)
        · replace E := E.val (t := 36) rfl hc_11
          replace E := E.val (t := 37) rfl hc_11
          refine WL_guard_no E rfl rfl rfl rfl fun a E => ?_
          refine WL_guard_no E rfl rfl rfl rfl fun a E => ?_
          refine WL_guard_no E rfl rfl rfl rfl fun a E => ?_
          refine S_v E rfl (R_pickT E rfl rfl) rfl ?_
          clear E a; intro a E
          refine S_v E rfl (R_move E rfl) rfl ?_
          clear E a; intro a E
          refine WL_guard_no E rfl rfl rfl rfl fun a E => ?_
          refine WL_guard_no E rfl rfl rfl rfl fun a E => ?_
          refine WL_guard_no E rfl rfl rfl rfl fun a E => ?_
          refine S_v E rfl (R_pickT E rfl rfl) rfl ?_
          clear E a; intro a E
          refine WL_nil ?_
          refine T_n ?_
          refine WP_condT E rfl rfl ?_
          refine WP_seq ?_
          refine WP_region ?_
          refine S_v E rfl (R_assign E rfl) rfl ?_
          clear E a; intro a E
          refine WL_nil ?_
          refine T_n ?_
          refine WP_ret ?_
          refine T_r ?_
          exact F_ret1 E Try.results13 rfl ⟨_, rfl, M_10, (hM_2.trans (hM_6.trans (hM_9.trans hM_10))), rfl, S⟩
        · replace E := E.val (t := 36) rfl hc_11
          replace E := E.val (t := 37) rfl hc_11
          refine WL_guard_yes E rfl rfl ?_
          refine S_v E rfl (R_loadGM E rfl (Try.isAgg37 _) (Try.sizeOf37 _) S.imm hb_1) rfl ?_
          clear E a; intro a E
          refine WL_guard_yes E rfl rfl ?_
          refine S_x (X_pu E S rfl rfl rfl (laws_just (by omega)) (Hp.le.refl _) ?_)
          clear E a S; rintro a _ w M_12 hM_12 rfl S E
          replace h0 := h0.le hM_12
          replace h1 := h1.le hM_12
          replace h2 := h2.le hM_12
          replace hb_1 := hM_12.2 _ _ hb_1
          replace hv_8 := hv_8.le hM_12
          refine WL_guard_yes E rfl rfl ?_
          refine S_v E rfl (R_not E rfl) rfl ?_
          clear E a; intro a E
          refine S_v E rfl (R_pickF E rfl rfl) rfl ?_
          clear E a; intro a E
          refine S_v E rfl (R_move E rfl) rfl ?_
          clear E a; intro a E
          refine split_bool (!(decide (-1099511627776 < kn3 ∧ kn3 < 1099511627776))) (fun hc_13 => ?_) (fun hc_13 => ?_)
          · replace E := E.val (t := 40) rfl hc_13
            replace E := E.val (t := 41) rfl hc_13
            replace E := E.val (t := 42) rfl hc_13
            refine WL_guard_no E rfl rfl rfl rfl fun a E => ?_
            refine WL_guard_no E rfl rfl rfl rfl fun a E => ?_
            refine WL_guard_no E rfl rfl rfl rfl fun a E => ?_
            refine S_v E rfl (R_pickT E rfl rfl) rfl ?_
            clear E a; intro a E
            refine WL_nil ?_
            refine T_n ?_
            refine WP_condT E rfl rfl ?_
            refine WP_seq ?_
            refine WP_region ?_
            refine S_v E rfl (R_assign E rfl) rfl ?_
            clear E a; intro a E
            refine WL_nil ?_
            refine T_n ?_
            refine WP_ret ?_
            refine T_r ?_
            exact F_ret1 E Try.results13 rfl ⟨_, rfl, M_12, (hM_2.trans (hM_6.trans (hM_9.trans (hM_10.trans hM_12)))), rfl, S⟩
          · replace E := E.val (t := 40) rfl hc_13
            replace E := E.val (t := 41) rfl hc_13
            replace E := E.val (t := 42) rfl hc_13
            refine WL_guard_yes E rfl rfl ?_
            refine S_v E rfl (R_fieldAddr E rfl (FA37_0 _)) rfl ?_
            clear E a; intro a E
            refine WL_guard_yes E rfl rfl ?_
            refine S_v E rfl (R_loadM E rfl Try.isAgg3 S.imm (cellM_boxo hb_1 rfl)) rfl ?_
            clear E a; intro a E
            refine WL_guard_yes E rfl rfl ?_
            refine S_v E rfl (R_eql E rfl rfl) rfl ?_
            clear E a; intro a E
            refine S_v E rfl (R_pickF E rfl rfl) rfl ?_
            clear E a; intro a E
            refine WL_nil ?_
            refine T_n ?_
            refine WP_cond E rfl (fun hc_14 => ?_) (fun hc_14 => ?_)
            · replace hc_14 := of_decide_eq_true hc_14
              refine WP_seq ?_
              refine WP_region ?_
              refine S_v E rfl (R_assign E rfl) rfl ?_
              clear E a; intro a E
              refine WL_nil ?_
              refine T_n ?_
              refine WP_ret ?_
              refine T_r ?_
              exact F_ret1 E Try.results13 rfl ⟨_, rfl, M_12, (hM_2.trans (hM_6.trans (hM_9.trans (hM_10.trans hM_12)))), rfl, S⟩
            · replace hc_14 := of_decide_eq_false hc_14
              have hkj : -1099511627776 < kn3 ∧ kn3 < 1099511627776 := (by simp_all)
              have hln : l0.length ≤ 300 ∧ l1.length ≤ 300 := (by simp_all)
              refine WP_skip ?_
              refine T_n ?_
              refine WP_seq ?_
              refine WP_region ?_
              refine S_x (X_buildI (ys := []) E S rfl T22 rfl rfl rfl ?_)
              clear E a S; rintro a w v_15 E S
              refine S_v E rfl (R_move E rfl) rfl ?_
              clear E a; intro a E
              refine S_x (X_appendI (xs := ([] : List Int)) E S rfl rfl rfl T22 h0 (by first | omega | (simp; done) | (simp; omega) | (simp_all; omega)) ?_)
              clear E a S; rintro a w v_16 E S
              refine S_v E rfl (R_assign E rfl) rfl ?_
              clear E a; intro a E
              refine WL_nil ?_
              refine T_n ?_
              refine WP_seq ?_
              refine WP_seq ?_
              refine WP_region ?_
              refine S_v E rfl (R_move E rfl) rfl ?_
              clear E a; intro a E
              refine S_v E rfl (R_lenV E rfl T77 h2.len) rfl ?_
              clear E a; intro a E
              refine S_v E rfl (R_move E rfl) rfl ?_
              clear E a; intro a E
              refine WL_nil ?_
              refine T_n ?_
              refine WP_block ?_
              replace S := S.re1 (l' := (0, l0).2) (by first | rfl | (simp; done))
              refine WP_loop (γ := Nat × List Int) (fun (g : Nat × List Int) a w => ∃ (M_17 : Hp), Hp.le M_12 M_17 ∧ St w M_17 (OwnI 3 v_16 g.2 :: H) ∧ Env a 151 [] [(0, v0), (1, v1), (7, .pointer (some ⟨b_1, 0, none⟩)), (9, v_16), (50, v2), (51, .int .i64 (((l2).length : Nat) : Int)), (52, .int .i64 ((g.1 : Nat) : Int))] ∧ (g.1 ≤ l2.length) ∧ (g.2.Perm l0)) (fun g => l2.length - g.1) (0, l0) ⟨M_12, Hp.le.refl _, S, E.keep ⟨rfl, rfl, rfl, rfl, rfl, rfl, look_nat (i := 0) rfl (by (rfl)), trivial⟩, (by simp), (by exact List.Perm.refl _)⟩ ?_
              try clear E
              try clear S
              try clear a
              try clear w
              rintro g a w ⟨M_17, hM_17, S, E, hL0_0, hL0_1⟩
              replace h0 := h0.le hM_17
              replace h1 := h1.le hM_17
              replace h2 := h2.le hM_17
              replace hb_1 := hM_17.2 _ _ hb_1
              replace hv_8 := hv_8.le hM_17
              have hgl := hL0_1.length_eq
              refine WP_seq ?_
              refine WP_region ?_
              refine S_v E rfl (R_lss E rfl rfl) rfl ?_
              clear E a; intro a E
              refine WL_nil ?_
              refine T_n ?_
              refine WP_seq ?_
              refine WP_cond E rfl (fun hc_18 => ?_) (fun hc_18 => ?_)
              · replace hc_18 := of_decide_eq_true hc_18
                refine WP_skip ?_
                refine T_n ?_
                refine WP_seq ?_
                refine WP_block ?_
                refine WP_seq ?_
                refine WP_region ?_
                refine S_v E rfl (R_move E rfl) rfl ?_
                clear E a; intro a E
                obtain ⟨x_19, hx_19⟩ : ∃ x, (l2)[g.1]? = some x := ⟨_, List.getElem?_eq_getElem (by first | omega | (simp; done) | (simp; omega) | (simp_all; omega))⟩
                obtain ⟨bx_21, p_20, hp_20, qp_20⟩ := h2.at hx_19
                refine S_v E rfl (R_idx E rfl rfl T77 hp_20 rfl) rfl ?_
                clear E a; intro a E
                refine S_v E rfl (R_loadM E rfl Try.isAgg5 S.imm qp_20) rfl ?_
                clear E a; intro a E
                refine S_v E rfl (R_assign E rfl) rfl ?_
                clear E a; intro a E
                refine S_v E rfl (R_assign E rfl) rfl ?_
                clear E a; intro a E
                refine WL_nil ?_
                refine T_n ?_
                refine WP_seq ?_
                refine WP_region ?_
                refine S_v E rfl (R_move E rfl) rfl ?_
                clear E a; intro a E
                refine S_v E rfl (R_lenV E rfl T22 S.lenC) rfl ?_
                clear E a; intro a E
                refine S_v E rfl (R_gtr E rfl rfl) rfl ?_
                clear E a; intro a E
                refine WL_nil ?_
                refine T_n ?_
                refine WP_cond E rfl (fun hc_22 => ?_) (fun hc_22 => ?_)
                · replace hc_22 := of_decide_eq_true hc_22
                  refine WP_seq ?_
                  replace S := S.mono_heap (w' := World.drew _) rfl
                  refine WP_drawn (C := fun x w => agree M_17 w) (bf := (fun i => [])) [0, 1, 2, 3, 4, 5, 6, 7, 8, 9, 10] [0, 1, 2, 3, 4, 5, 6, 7, 8, 9, 10] Try.mixed (by kernel_rfl) (fun x hq => S.imm) ?_
                  refine D_v E rfl rfl rfl (fun w hC => (R_move E rfl)) ?_
                  clear E a; intro a E
                  refine D_v E rfl rfl rfl (fun w hC => (R_move E rfl)) ?_
                  clear E a; intro a E
                  refine D_v E rfl rfl rfl (fun w hC => (R_lenV E rfl T22 S.lenC)) ?_
                  clear E a; intro a E
                  refine D_v E rfl rfl rfl (fun w hC => (R_remn (p := g.1) (q := (g.2).length) E rfl rfl (by first | decide | omega))) ?_
                  clear E a; intro a E
                  refine D_v E rfl rfl rfl (fun w hC => (R_move E rfl)) ?_
                  clear E a; intro a E
                  refine D_v E rfl rfl rfl (fun w hC => (R_convx E rfl Try.underlying5 Try.underlying3 (by omega))) ?_
                  clear E a; intro a E
                  refine D_v E rfl rfl rfl (fun w hC => (R_move E rfl)) ?_
                  clear E a; intro a E
                  refine D_v E rfl rfl rfl (fun w hC => (R_lenV E rfl T22 S.lenC)) ?_
                  clear E a; intro a E
                  refine D_v E rfl rfl rfl (fun w hC => (R_remm (m := ((x_19.toNat % ((g.2).length) : Nat) : Int)) E rfl rfl (by first | decide | omega) (by exact tmod_u8 (by omega)))) ?_
                  clear E a; intro a E
                  refine D_v E rfl rfl rfl (fun w hC => (R_assign E rfl)) ?_
                  clear E a; intro a E
                  refine D_v E rfl rfl rfl (fun w hC => (R_assign E rfl)) ?_
                  clear E a; intro a E
                  refine D_end (NoP_n ?_)
                  refine T_n ?_
                  have hb_1k22 := hb_1
                  have qp_20k22 := qp_20
                  replace S := S.mono_heap (w' := World.drew _) rfl
                  obtain ⟨p_23, hp_23⟩ := S.ptrC (k := x_19.toNat % ((g.2).length)) (by exact Nat.mod_lt _ (by omega))
                  obtain ⟨x_24, hx_24⟩ : ∃ x, (g.2)[x_19.toNat % ((g.2).length)]? = some x := ⟨_, List.getElem?_eq_getElem (by exact Nat.mod_lt _ (by omega))⟩
                  obtain ⟨p_25, hp_25⟩ := S.ptrC (k := g.1 % ((g.2).length)) (by exact Nat.mod_lt _ (by omega))
                  obtain ⟨x_26, hx_26⟩ : ∃ x, (g.2)[g.1 % ((g.2).length)]? = some x := ⟨_, List.getElem?_eq_getElem (by exact Nat.mod_lt _ (by omega))⟩
                  refine WP_drawn (C := fun x w => agree M_17 w ∧ (x = 7 → w.cell? p_23 = some (.int .i64 x_24)) ∧ (x = 11 → w.cell? p_25 = some (.int .i64 x_26))) (bf := (fun i => bif Nat.beq i 13 then [7, 11] else bif Nat.beq i 15 then [7, 11] else [])) [0, 1, 2, 3, 4, 5, 6, 7, 8, 9, 10, 11, 12, 14] [0, 1, 2, 3, 4, 5, 6, 7, 8, 9, 10, 11, 12, 13, 14, 15] Try.mixed (by kernel_rfl) (fun x hq => ⟨S.imm, fun _ => S.cellI hp_23 hx_24, fun _ => S.cellI hp_25 hx_26⟩) ?_
                  refine D_v E rfl rfl rfl (fun w hC => (R_move E rfl)) ?_
                  clear E a; intro a E
                  refine D_v E rfl rfl rfl (fun w hC => (R_move E rfl)) ?_
                  clear E a; intro a E
                  refine D_v E rfl rfl rfl (fun w hC => (R_move E rfl)) ?_
                  clear E a; intro a E
                  refine D_v E rfl rfl rfl (fun w hC => (R_move E rfl)) ?_
                  clear E a; intro a E
                  refine D_v E rfl rfl rfl (fun w hC => (R_move E rfl)) ?_
                  clear E a; intro a E
                  refine D_v E rfl rfl rfl (fun w hC => (R_move E rfl)) ?_
                  clear E a; intro a E
                  refine D_v E rfl rfl rfl (fun w hC => (R_idx E rfl rfl T22 hp_23 rfl)) ?_
                  clear E a; intro a E
                  refine D_v E rfl rfl rfl (fun w hC => (R_load E rfl (Try.isAgg3 _) (hC.2.1 rfl))) ?_
                  clear E a; intro a E
                  refine D_v E rfl rfl rfl (fun w hC => (R_move E rfl)) ?_
                  clear E a; intro a E
                  refine D_v E rfl rfl rfl (fun w hC => (R_move E rfl)) ?_
                  clear E a; intro a E
                  refine D_v E rfl rfl rfl (fun w hC => (R_idx E rfl rfl T22 hp_25 rfl)) ?_
                  clear E a; intro a E
                  refine D_v E rfl rfl rfl (fun w hC => (R_load E rfl (Try.isAgg3 _) (hC.2.2 rfl))) ?_
                  clear E a; intro a E
                  refine D_v E rfl rfl rfl (fun w hC => (R_idx E rfl rfl T22 hp_25 rfl)) ?_
                  clear E a; intro a E
                  refine D_x rfl rfl rfl (X_storeI E S rfl rfl (Try.sizeOf3 _) hp_25 ?_)
                  clear E a S; rintro a w E S
                  refine ⟨fun x hq hb => ⟨(agree_le (Hp.le.refl _) S.imm), (fun e => by subst e; exact absurd hb (by decide)), (fun e => by subst e; exact absurd hb (by decide))⟩, ?_⟩
                  refine D_v E rfl rfl rfl (fun w hC => (R_idx E rfl rfl T22 hp_23 rfl)) ?_
                  clear E a; intro a E
                  refine D_x rfl rfl rfl (X_storeI E S rfl rfl (Try.sizeOf3 _) hp_23 ?_)
                  clear E a S; rintro a w E S
                  refine ⟨fun x hq hb => ⟨(agree_le (Hp.le.refl _) S.imm), (fun e => by subst e; exact absurd hb (by decide)), (fun e => by subst e; exact absurd hb (by decide))⟩, ?_⟩
                  refine D_end (NoP_n ?_)
                  refine B_n ?_
                  refine T_n ?_
                  refine WP_region ?_
                  refine S_v E rfl (R_addx (m := ((g.1 + 1 : Nat) : Int)) E rfl rfl (by omega) (by omega)) rfl ?_
                  clear E a; intro a E
                  refine S_v E rfl (R_move E rfl) rfl ?_
                  clear E a; intro a E
                  refine WL_nil ?_
                  refine T_n ?_
                  replace S := S.re1 (l' := (g.1 + 1, ((g.2).set (g.1 % ((g.2).length)) x_24).set (x_19.toNat % ((g.2).length)) x_26).2) (by first | rfl | (simp; done))
                  exact ⟨(g.1 + 1, (g.1 + 1, ((g.2).set (g.1 % ((g.2).length)) x_24).set (x_19.toNat % ((g.2).length)) x_26).2), ⟨M_17, hM_17, S, E.keep ⟨rfl, rfl, rfl, rfl, rfl, rfl, look_nat (i := g.1 + 1) rfl (by (rfl)), trivial⟩, (by simp; omega), (by first | assumption | exact swap_perm (by assumption) (by assumption) (by assumption))⟩, (by simp; omega)⟩
                · replace hc_22 := of_decide_eq_false hc_22
                  refine WP_skip ?_
                  refine B_n ?_
                  refine T_n ?_
                  refine WP_region ?_
                  refine S_v E rfl (R_addx (m := ((g.1 + 1 : Nat) : Int)) E rfl rfl (by omega) (by omega)) rfl ?_
                  clear E a; intro a E
                  refine S_v E rfl (R_move E rfl) rfl ?_
                  clear E a; intro a E
                  refine WL_nil ?_
                  refine T_n ?_
                  replace S := S.re1 (l' := (g.1 + 1, g.2).2) (by first | rfl | (simp; done))
                  exact ⟨(g.1 + 1, (g.1 + 1, g.2).2), ⟨M_17, hM_17, S, E.keep ⟨rfl, rfl, rfl, rfl, rfl, rfl, look_nat (i := g.1 + 1) rfl (by (rfl)), trivial⟩, (by simp; omega), (by first | assumption | exact swap_perm (by assumption) (by assumption) (by assumption))⟩, (by simp; omega)⟩
              · replace hc_18 := of_decide_eq_false hc_18
                refine WP_exit ?_
                refine T_x ?_
                refine T_x ?_
                refine B_x ?_
                refine T_n ?_
                refine WP_seq ?_
                refine WP_region ?_
                refine S_v E rfl (R_makeFunc E rfl rfl) rfl ?_
                clear E a; intro a E
                refine S_v E rfl (R_assign E rfl) rfl ?_
                clear E a; intro a E
                refine WL_nil ?_
                refine T_n ?_
                refine WP_seq ?_
                refine WP_region ?_
                refine S_v E rfl (R_move E rfl) rfl ?_
                clear E a; intro a E
                refine S_v E rfl (R_move E rfl) rfl ?_
                clear E a; intro a E
                refine S_x (X_pu E S rfl rfl rfl (laws_same h0 h1) (Hp.le.refl _) ?_)
                clear E a S; rintro a _ w M_27 hM_27 rfl S E
                replace h0 := h0.le hM_27
                replace h1 := h1.le hM_27
                replace h2 := h2.le hM_27
                replace hb_1 := hM_27.2 _ _ hb_1
                replace hv_8 := hv_8.le hM_27
                refine S_v E rfl (R_move E rfl) rfl ?_
                clear E a; intro a E
                refine S_v E rfl (R_move E rfl) rfl ?_
                clear E a; intro a E
                refine S_x (X_pu E S rfl rfl rfl (laws_FnMatches1 h0 (by (first | omega | (simp; omega) | (simp; done) | (simp_all; omega) | grind)) (by omega) hb_1 (by first | assumption | omega)) (Hp.le.refl _) ?_)
                clear E a S; rintro a v_29 w M_28 hM_28 hv_29 S E
                replace h0 := h0.le hM_28
                replace h1 := h1.le hM_28
                replace h2 := h2.le hM_28
                replace hb_1 := hM_28.2 _ _ hb_1
                replace hv_8 := hv_8.le hM_28
                refine S_v E rfl (R_move E rfl) rfl ?_
                clear E a; intro a E
                refine S_v E rfl (R_move E rfl) rfl ?_
                clear E a; intro a E
                refine S_x (X_pu E S rfl rfl rfl (laws_FnMatches1 h1 (by (first | omega | (simp; omega) | (simp; done) | (simp_all; omega) | grind)) (by omega) hb_1 (by first | assumption | omega)) (Hp.le.refl _) ?_)
                clear E a S; rintro a v_31 w M_30 hM_30 hv_31 S E
                replace h0 := h0.le hM_30
                replace h1 := h1.le hM_30
                replace h2 := h2.le hM_30
                replace hb_1 := hM_30.2 _ _ hb_1
                replace hv_8 := hv_8.le hM_30
                replace hv_29 := hv_29.le hM_30
                refine S_x (X_pu E S rfl rfl rfl (laws_same hv_29 hv_31) (Hp.le.refl _) ?_)
                clear E a S; rintro a _ w M_32 hM_32 rfl S E
                replace h0 := h0.le hM_32
                replace h1 := h1.le hM_32
                replace h2 := h2.le hM_32
                replace hb_1 := hM_32.2 _ _ hb_1
                replace hv_8 := hv_8.le hM_32
                replace hv_29 := hv_29.le hM_32
                replace hv_31 := hv_31.le hM_32
                refine S_v E rfl (R_assign E rfl) rfl ?_
                clear E a; intro a E
                refine S_v E rfl (R_assign E rfl) rfl ?_
                clear E a; intro a E
                refine WL_nil ?_
                refine T_n ?_
                refine WP_seq ?_
                refine WP_region ?_
                refine S_v E rfl (R_move E rfl) rfl ?_
                clear E a; intro a E
                refine S_v E rfl (R_move E rfl) rfl ?_
                clear E a; intro a E
                refine S_x (X_pu E S rfl rfl rfl (spec_ElementsMatch h0 h1 (by first | assumption | exact hr0 | exact hr1) (by first | assumption | exact hr0 | exact hr1) (by (first | omega | (simp; omega) | (simp; done) | (simp_all; omega) | grind)) (by (first | omega | (simp; omega) | (simp; done) | (simp_all; omega) | grind))) (Hp.le.refl _) ?_)
                clear E a S; rintro a _ w M_33 hM_33 rfl S E
                replace h0 := h0.le hM_33
                replace h1 := h1.le hM_33
                replace h2 := h2.le hM_33
                replace hb_1 := hM_33.2 _ _ hb_1
                replace hv_8 := hv_8.le hM_33
                replace hv_29 := hv_29.le hM_33
                replace hv_31 := hv_31.le hM_33
                refine S_v E rfl (R_move E rfl) rfl ?_
                clear E a; intro a E
                refine S_v E rfl (R_eqlB E rfl rfl Try.underlying4) rfl ?_
                clear E a; intro a E
                refine S_v E rfl (R_move E rfl) rfl ?_
                clear E a; intro a E
                have hc_34 : (((l0).isPerm l1) == (decide (l0.length = l1.length ∧ ∀ x ∈ l0, l0.count x = l1.count x))) = true := by (clear E S; first | (simp only [same_isPerm, key0_map hr0, key0_map hr1]; simp; done) | (simp; done) | decide | (simp [same_isPerm]; done) | (rw [same_isPerm]; simp; done) | (simp only [same_isPerm]; first | done | rfl | simp) | (have h9 := List.isPerm_iff.2 hL0_1.symm; simp [h9]; done))
                replace E := E.val (t := 99) rfl hc_34
                replace E := E.val (t := 100) rfl hc_34
                refine WL_guard_yes E rfl rfl ?_
                refine S_v E rfl (R_move E rfl) rfl ?_
                clear E a; intro a E
                refine WL_guard_yes E rfl rfl ?_
                refine S_v E rfl (R_move E rfl) rfl ?_
                clear E a; intro a E
                refine WL_guard_yes E rfl rfl ?_
                refine S_v E rfl (R_loadGM E rfl (Try.isAgg37 _) (Try.sizeOf37 _) S.imm hb_1) rfl ?_
                clear E a; intro a E
                refine WL_guard_yes E rfl rfl ?_
                refine S_x (X_pu E S rfl rfl rfl (spec_ElementsMatchBy h0 h1 (by omega) (by first | assumption | exact hr0 | exact hr1) (by first | assumption | exact hr0 | exact hr1) (by (first | omega | (simp; omega) | (simp; done) | (simp_all; omega) | grind)) (by (first | omega | (simp; omega) | (simp; done) | (simp_all; omega) | grind))) (Hp.le.refl _) ?_)
                clear E a S; rintro a _ w M_35 hM_35 rfl S E
                replace h0 := h0.le hM_35
                replace h1 := h1.le hM_35
                replace h2 := h2.le hM_35
                replace hb_1 := hM_35.2 _ _ hb_1
                replace hv_8 := hv_8.le hM_35
                replace hv_29 := hv_29.le hM_35
                replace hv_31 := hv_31.le hM_35
                refine WL_guard_yes E rfl rfl ?_
                refine S_v E rfl (R_move E rfl) rfl ?_
                clear E a; intro a E
                refine WL_guard_yes E rfl rfl ?_
                refine S_v E rfl (R_eqlB E rfl rfl Try.underlying4) rfl ?_
                clear E a; intro a E
                refine S_v E rfl (R_pickT E rfl rfl) rfl ?_
                clear E a; intro a E
                refine S_v E rfl (R_move E rfl) rfl ?_
                clear E a; intro a E
                have hc_36 : ((((l0).map (fun x => keyAt kk3 kn3 x 0)).isPerm ((l1).map (fun x => keyAt kk3 kn3 x 0))) == (decide (((l0).map (fun x => keyAt kk3 kn3 x 0)).length = ((l1).map (fun x => keyAt kk3 kn3 x 0)).length ∧ ∀ x ∈ (l0).map (fun x => keyAt kk3 kn3 x 0), ((l0).map (fun x => keyAt kk3 kn3 x 0)).count x = ((l1).map (fun x => keyAt kk3 kn3 x 0)).count x))) = true := by (clear E S; first | (simp only [same_isPerm, key0_map hr0, key0_map hr1]; simp; done) | (simp; done) | decide | (simp [same_isPerm]; done) | (rw [same_isPerm]; simp; done) | (simp only [same_isPerm]; first | done | rfl | simp) | (have h9 := List.isPerm_iff.2 hL0_1.symm; simp [h9]; done))
                replace E := E.val (t := 106) rfl hc_36
                replace E := E.val (t := 107) rfl hc_36
                replace E := E.val (t := 108) rfl hc_36
                refine WL_guard_yes E rfl rfl ?_
                refine S_v E rfl (R_move E rfl) rfl ?_
                clear E a; intro a E
                refine WL_guard_yes E rfl rfl ?_
                refine S_v E rfl (R_move E rfl) rfl ?_
                clear E a; intro a E
                refine WL_guard_yes E rfl rfl ?_
                refine S_x (X_pu E S rfl rfl rfl (impl_ElementsMatch h0 h1) (Hp.le.refl _) ?_)
                clear E a S; rintro a _ w M_37 hM_37 rfl S E
                replace h0 := h0.le hM_37
                replace h1 := h1.le hM_37
                replace h2 := h2.le hM_37
                replace hb_1 := hM_37.2 _ _ hb_1
                replace hv_8 := hv_8.le hM_37
                replace hv_29 := hv_29.le hM_37
                replace hv_31 := hv_31.le hM_37
                refine WL_guard_yes E rfl rfl ?_
                refine S_v E rfl (R_move E rfl) rfl ?_
                clear E a; intro a E
                refine WL_guard_yes E rfl rfl ?_
                refine S_v E rfl (R_eqlB E rfl rfl Try.underlying4) rfl ?_
                clear E a; intro a E
                refine S_v E rfl (R_pickT E rfl rfl) rfl ?_
                clear E a; intro a E
                refine S_v E rfl (R_move E rfl) rfl ?_
                clear E a; intro a E
                have hc_38 : (((l0).isPerm l1) == (decide (l0.length = l1.length ∧ ∀ x ∈ l0, l0.count x = l1.count x))) = true := by (clear E S; first | (simp only [same_isPerm, key0_map hr0, key0_map hr1]; simp; done) | (simp; done) | decide | (simp [same_isPerm]; done) | (rw [same_isPerm]; simp; done) | (simp only [same_isPerm]; first | done | rfl | simp) | (have h9 := List.isPerm_iff.2 hL0_1.symm; simp [h9]; done))
                replace E := E.val (t := 113) rfl hc_38
                replace E := E.val (t := 114) rfl hc_38
                replace E := E.val (t := 115) rfl hc_38
                refine WL_guard_yes E rfl rfl ?_
                refine S_v E rfl (R_move E rfl) rfl ?_
                clear E a; intro a E
                refine WL_guard_yes E rfl rfl ?_
                refine S_v E rfl (R_move E rfl) rfl ?_
                clear E a; intro a E
                refine WL_guard_yes E rfl rfl ?_
                refine S_x (X_pu E S rfl rfl rfl (impl_ElementsMatchSeq h0 h1 (by (first | omega | (simp; omega) | (simp; done) | (simp_all; omega) | grind)) (by (first | omega | (simp; omega) | (simp; done) | (simp_all; omega) | grind))) (Hp.le.refl _) ?_)
                clear E a S; rintro a _ w M_39 hM_39 rfl S E
                replace h0 := h0.le hM_39
                replace h1 := h1.le hM_39
                replace h2 := h2.le hM_39
                replace hb_1 := hM_39.2 _ _ hb_1
                replace hv_8 := hv_8.le hM_39
                replace hv_29 := hv_29.le hM_39
                replace hv_31 := hv_31.le hM_39
                refine WL_guard_yes E rfl rfl ?_
                refine S_v E rfl (R_move E rfl) rfl ?_
                clear E a; intro a E
                refine WL_guard_yes E rfl rfl ?_
                refine S_v E rfl (R_eqlB E rfl rfl Try.underlying4) rfl ?_
                clear E a; intro a E
                refine S_v E rfl (R_pickT E rfl rfl) rfl ?_
                clear E a; intro a E
                refine S_v E rfl (R_move E rfl) rfl ?_
                clear E a; intro a E
                have hc_40 : (((l0).isPerm l1) == (decide (l0.length = l1.length ∧ ∀ x ∈ l0, l0.count x = l1.count x))) = true := by (clear E S; first | (simp only [same_isPerm, key0_map hr0, key0_map hr1]; simp; done) | (simp; done) | decide | (simp [same_isPerm]; done) | (rw [same_isPerm]; simp; done) | (simp only [same_isPerm]; first | done | rfl | simp) | (have h9 := List.isPerm_iff.2 hL0_1.symm; simp [h9]; done))
                replace E := E.val (t := 120) rfl hc_40
                replace E := E.val (t := 121) rfl hc_40
                replace E := E.val (t := 122) rfl hc_40
                refine WL_guard_yes E rfl rfl ?_
                refine S_v E rfl (R_move E rfl) rfl ?_
                clear E a; intro a E
                refine WL_guard_yes E rfl rfl ?_
                refine S_v E rfl (R_move E rfl) rfl ?_
                clear E a; intro a E
                refine WL_guard_yes E rfl rfl ?_
                refine S_v E rfl (R_loadGM E rfl (Try.isAgg37 _) (Try.sizeOf37 _) S.imm hb_1) rfl ?_
                clear E a; intro a E
                refine WL_guard_yes E rfl rfl ?_
                refine S_x (X_pu E S rfl rfl rfl (impl_ElementsMatchBy h0 h1 (by omega)) (Hp.le.refl _) ?_)
                clear E a S; rintro a _ w M_41 hM_41 rfl S E
                replace h0 := h0.le hM_41
                replace h1 := h1.le hM_41
                replace h2 := h2.le hM_41
                replace hb_1 := hM_41.2 _ _ hb_1
                replace hv_8 := hv_8.le hM_41
                replace hv_29 := hv_29.le hM_41
                replace hv_31 := hv_31.le hM_41
                refine WL_guard_yes E rfl rfl ?_
                refine S_v E rfl (R_move E rfl) rfl ?_
                clear E a; intro a E
                refine WL_guard_yes E rfl rfl ?_
                refine S_v E rfl (R_eqlB E rfl rfl Try.underlying4) rfl ?_
                clear E a; intro a E
                refine S_v E rfl (R_pickT E rfl rfl) rfl ?_
                clear E a; intro a E
                refine S_v E rfl (R_move E rfl) rfl ?_
                clear E a; intro a E
                have hc_42 : ((((l0).map (fun x => keyAt kk3 kn3 x 0)).isPerm ((l1).map (fun x => keyAt kk3 kn3 x 0))) == (decide (((l0).map (fun x => keyAt kk3 kn3 x 0)).length = ((l1).map (fun x => keyAt kk3 kn3 x 0)).length ∧ ∀ x ∈ (l0).map (fun x => keyAt kk3 kn3 x 0), ((l0).map (fun x => keyAt kk3 kn3 x 0)).count x = ((l1).map (fun x => keyAt kk3 kn3 x 0)).count x))) = true := by (clear E S; first | (simp only [same_isPerm, key0_map hr0, key0_map hr1]; simp; done) | (simp; done) | decide | (simp [same_isPerm]; done) | (rw [same_isPerm]; simp; done) | (simp only [same_isPerm]; first | done | rfl | simp) | (have h9 := List.isPerm_iff.2 hL0_1.symm; simp [h9]; done))
                replace E := E.val (t := 128) rfl hc_42
                replace E := E.val (t := 129) rfl hc_42
                replace E := E.val (t := 130) rfl hc_42
                refine WL_guard_yes E rfl rfl ?_
                refine S_v E rfl (R_move E rfl) rfl ?_
                clear E a; intro a E
                refine WL_guard_yes E rfl rfl ?_
                refine S_v E rfl (R_move E rfl) rfl ?_
                clear E a; intro a E
                refine WL_guard_yes E rfl rfl ?_
                refine S_v E rfl (R_loadGM E rfl (Try.isAgg37 _) (Try.sizeOf37 _) S.imm hb_1) rfl ?_
                clear E a; intro a E
                refine WL_guard_yes E rfl rfl ?_
                refine S_x (X_pu E S rfl rfl rfl (impl_ElementsMatchBySeq h0 h1 (by omega) (by (first | omega | (simp; omega) | (simp; done) | (simp_all; omega) | grind)) (by (first | omega | (simp; omega) | (simp; done) | (simp_all; omega) | grind))) (Hp.le.refl _) ?_)
                clear E a S; rintro a _ w M_43 hM_43 rfl S E
                replace h0 := h0.le hM_43
                replace h1 := h1.le hM_43
                replace h2 := h2.le hM_43
                replace hb_1 := hM_43.2 _ _ hb_1
                replace hv_8 := hv_8.le hM_43
                replace hv_29 := hv_29.le hM_43
                replace hv_31 := hv_31.le hM_43
                refine WL_guard_yes E rfl rfl ?_
                refine S_v E rfl (R_move E rfl) rfl ?_
                clear E a; intro a E
                refine WL_guard_yes E rfl rfl ?_
                refine S_v E rfl (R_eqlB E rfl rfl Try.underlying4) rfl ?_
                clear E a; intro a E
                refine S_v E rfl (R_pickT E rfl rfl) rfl ?_
                clear E a; intro a E
                refine S_v E rfl (R_move E rfl) rfl ?_
                clear E a; intro a E
                have hc_44 : ((((l0).map (fun x => keyAt kk3 kn3 x 0)).isPerm ((l1).map (fun x => keyAt kk3 kn3 x 0))) == (decide (((l0).map (fun x => keyAt kk3 kn3 x 0)).length = ((l1).map (fun x => keyAt kk3 kn3 x 0)).length ∧ ∀ x ∈ (l0).map (fun x => keyAt kk3 kn3 x 0), ((l0).map (fun x => keyAt kk3 kn3 x 0)).count x = ((l1).map (fun x => keyAt kk3 kn3 x 0)).count x))) = true := by (clear E S; first | (simp only [same_isPerm, key0_map hr0, key0_map hr1]; simp; done) | (simp; done) | decide | (simp [same_isPerm]; done) | (rw [same_isPerm]; simp; done) | (simp only [same_isPerm]; first | done | rfl | simp) | (have h9 := List.isPerm_iff.2 hL0_1.symm; simp [h9]; done))
                replace E := E.val (t := 136) rfl hc_44
                replace E := E.val (t := 137) rfl hc_44
                replace E := E.val (t := 138) rfl hc_44
                refine WL_guard_yes E rfl rfl ?_
                refine S_v E rfl (R_move E rfl) rfl ?_
                clear E a; intro a E
                refine WL_guard_yes E rfl rfl ?_
                refine S_v E rfl (R_move E rfl) rfl ?_
                clear E a; intro a E
                have S0 := S; clear S
                obtain ⟨M_45, hM_45, hz_46, S⟩ := S0.freezeI (by (first | omega | (simp; omega) | (simp; done) | (simp_all; omega) | grind))
                clear S0
                replace h0 := h0.le hM_45
                replace h1 := h1.le hM_45
                replace h2 := h2.le hM_45
                replace hb_1 := hM_45.2 _ _ hb_1
                replace hv_8 := hv_8.le hM_45
                replace hv_29 := hv_29.le hM_45
                replace hv_31 := hv_31.le hM_45
                refine WL_guard_yes E rfl rfl ?_
                refine S_x (X_pu E S rfl rfl rfl (impl_ElementsMatch h0 hz_46) (Hp.le.refl _) ?_)
                clear E a S; rintro a _ w M_47 hM_47 rfl S E
                replace h0 := h0.le hM_47
                replace h1 := h1.le hM_47
                replace h2 := h2.le hM_47
                replace hb_1 := hM_47.2 _ _ hb_1
                replace hv_8 := hv_8.le hM_47
                replace hv_29 := hv_29.le hM_47
                replace hv_31 := hv_31.le hM_47
                replace hz_46 := hz_46.le hM_47
                refine S_v E rfl (R_pickT E rfl rfl) rfl ?_
                clear E a; intro a E
                refine S_v E rfl (R_move E rfl) rfl ?_
                clear E a; intro a E
                have hc_48 : ((l0).isPerm g.2) = true := by (clear E S; first | (simp only [same_isPerm, key0_map hr0, key0_map hr1]; simp; done) | (simp; done) | decide | (simp [same_isPerm]; done) | (rw [same_isPerm]; simp; done) | (simp only [same_isPerm]; first | done | rfl | simp) | (have h9 := List.isPerm_iff.2 hL0_1.symm; simp [h9]; done))
                replace E := E.val (t := 141) rfl hc_48
                replace E := E.val (t := 142) rfl hc_48
                replace E := E.val (t := 143) rfl hc_48
                refine WL_guard_yes E rfl rfl ?_
                refine S_v E rfl (R_move E rfl) rfl ?_
                clear E a; intro a E
                refine WL_guard_yes E rfl rfl ?_
                refine S_v E rfl (R_move E rfl) rfl ?_
                clear E a; intro a E
                refine WL_guard_yes E rfl rfl ?_
                refine S_v E rfl (R_build (u := .agg #[.int .i64 0, .int .i64 0]) (vs := []) E rfl (fun w => FB37__  w)) rfl ?_
                clear E a; intro a E
                refine WL_guard_yes E rfl rfl ?_
                refine S_x (X_pu E S rfl rfl rfl (impl_ElementsMatchBy h0 h1 (by omega)) (Hp.le.refl _) ?_)
                clear E a S; rintro a _ w M_49 hM_49 rfl S E
                replace h0 := h0.le hM_49
                replace h1 := h1.le hM_49
                replace h2 := h2.le hM_49
                replace hb_1 := hM_49.2 _ _ hb_1
                replace hv_8 := hv_8.le hM_49
                replace hv_29 := hv_29.le hM_49
                replace hv_31 := hv_31.le hM_49
                replace hz_46 := hz_46.le hM_49
                refine WL_guard_yes E rfl rfl ?_
                refine S_v E rfl (R_move E rfl) rfl ?_
                clear E a; intro a E
                refine WL_guard_yes E rfl rfl ?_
                refine S_v E rfl (R_eqlB E rfl rfl Try.underlying4) rfl ?_
                clear E a; intro a E
                refine S_v E rfl (R_pickT E rfl rfl) rfl ?_
                clear E a; intro a E
                refine S_v E rfl (R_assign E rfl) rfl ?_
                clear E a; intro a E
                refine WL_nil ?_
                refine T_n ?_
                refine WP_ret ?_
                exact F_ret1 E Try.results13 rfl ⟨_, rfl, M_49, (hM_2.trans (hM_6.trans (hM_9.trans (hM_10.trans (hM_12.trans (hM_17.trans (hM_27.trans (hM_28.trans (hM_30.trans (hM_32.trans (hM_33.trans (hM_35.trans (hM_37.trans (hM_39.trans (hM_41.trans (hM_43.trans (hM_45.trans (hM_47.trans hM_49)))))))))))))))))), (congrArg Value.bool (by (clear E S; first | (simp only [same_isPerm, key0_map hr0, key0_map hr1]; simp; done) | (simp; done) | decide | (simp [same_isPerm]; done) | (rw [same_isPerm]; simp; done) | (simp only [same_isPerm]; first | done | rfl | simp) | (have h9 := List.isPerm_iff.2 hL0_1.symm; simp [h9]; done)))), S⟩

end Go.Proofs.Ytllmbopajlfneaa.wFnMatches
