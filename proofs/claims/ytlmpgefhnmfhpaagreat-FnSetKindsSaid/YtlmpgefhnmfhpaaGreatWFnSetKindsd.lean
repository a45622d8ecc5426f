/- Walks through the functions that laws.FnSetKinds reaches: what each computes; no conditions beyond what each theorem states. -/
import Derived.Test.YtlmpgefhnmfhpaaGreatWFnSetKindsc
set_option linter.unusedVariables false
set_option linter.unusedSimpArgs false
namespace Go.Proofs.YtlmpgefhnmfhpaaGreat.wFnSetKinds
open Go Go.Sl
set_option maxRecDepth 100000 in
set_option maxHeartbeats 4000000 in
theorem impl_set {M : Hp} {x0 : Bool} {v1 : Value} {t9 : List RG} {sd sa sb st sx : Int} {v2 : Value} {l2 : List Int} (h2 : RdI M v2 l2)(hbt : ∀ (i : Nat) (y : RG), t9[i]? = some y → y.2.2.length ≤ 1000000000) (hl : t9.length = 8) (hb2 : l2.length ≤ 1000000000)  :
    Sp Tryz.prog (.func (.func 42) #[] #[]) M [.bool x0, v1, .agg #[.int .i64 sd, .int .i64 sa, .int .i64 sb, .int .i64 st, .int .i64 sx, v2]] [Regs KS x0 v1 t9] (fun r M' C' => ∃ t_ is_ n_ u_ al_, C' = [Regs KS x0 v1 t_] ∧ r = .agg #[.bool is_, .int .i64 n_, u_] ∧ (RdI M' u_ al_) ∧ (t_.length = 8) ∧ (StepR sd (regN sa) (regN st) sx l2 ((lsT t9).getD (regN sa) []) ((lsT t9).getD (regN sb) []) (lsT t9) (lsT t_) is_ n_ al_)) := by
  refine Sp_enter Tryz.func42 rfl Tryz.ntmps42 rfl Tryz.call42 ?_
  intro a w M1 H hM1 S E
  replace S : St w M1 (Regs KS x0 v1 t9 :: _) := S
  replace h2 := h2.le hM1
  have b2 := h2.bound
  have hbt0 := hbt
  refine WP_seq ?_
  refine WP_region ?_
  refine S_x (X_box (cs := #[.int .i64 sd, .int .i64 sa, .int .i64 sb, .int .i64 st, .int .i64 sx, v2]) E S rfl rfl rfl ?_)
  clear E a S; rintro a w b_1 E S
  obtain ⟨M_2, hM_2, hb_1, S⟩ := S.freezeB
  replace h2 := h2.le hM_2
  refine S_x (X_alloc (cs := #[.bool false, .int .i64 0, .slice none 0 0]) E S rfl Tryz.zeroValue42 rfl ?_)
  clear E a S; rintro a w b_3 E S
  refine WL_nil ?_
  refine T_n ?_
  refine WP_seq ?_
  have hb_1k3 := hb_1
  replace S := S.mono_heap (w' := World.drew _) rfl
  replace S := S.front1
  have hkp_4 : ((sa % 8).toNat) < (t9).length := by omega
  obtain ⟨p_4, hp_4⟩ := ptrR S hkp_4
  obtain ⟨x_5, hx_5⟩ : ∃ x : RG, (t9)[(sa % 8).toNat]? = some x := ⟨_, List.getElem?_eq_getElem hkp_4⟩
  have hbx_5 := hbt _ _ hx_5
  have hcx_5 := card_le x_5.2.2
  have hkp_6 : ((sb % 8).toNat) < (t9).length := by omega
  obtain ⟨p_6, hp_6⟩ := ptrR S hkp_6
  obtain ⟨x_7, hx_7⟩ : ∃ x : RG, (t9)[(sb % 8).toNat]? = some x := ⟨_, List.getElem?_eq_getElem hkp_6⟩
  have hbx_7 := hbt _ _ hx_7
  have hcx_7 := card_le x_7.2.2
  have hkp_8 : ((st % 8).toNat) < (t9).length := by omega
  obtain ⟨p_8, hp_8⟩ := ptrR S hkp_8
  refine WP_drawn (C := fun x w => agree M_2 w ∧ (x = 5 → w.cell? p_4 = some (ifv KS x0 x_5)) ∧ (x = 11 → w.cell? p_6 = some (ifv KS x0 x_7))) (bf := (fun i => bif Nat.beq i 3 then [] else bif Nat.beq i 9 then [] else bif Nat.beq i 15 then [] else [])) [0, 1, 2, 4, 5, 6, 7, 8, 10, 11, 12, 13, 14, 16, 17, 18, 19] [0, 1, 2, 6, 7, 8, 12, 13, 14, 3, 4, 5, 9, 10, 11, 15, 16, 17, 18, 19] Tryz.mixed (by kernel_rfl) (fun x hq => ⟨S.imm, fun _ => cellR S hp_4 hx_5, fun _ => cellR S hp_6 hx_7⟩) ?_
  refine D_v E rfl rfl rfl (fun w hC => (R_move E rfl)) ?_
  clear E a; intro a E
  refine D_v E rfl rfl rfl (fun w hC => (R_fieldAddr E rfl (FA40_1 _))) ?_
  clear E a; intro a E
  refine D_v E rfl rfl rfl (fun w hC => (R_loadM E rfl Tryz.isAgg3 hC.1 (cellM_boxo hb_1k3 rfl))) ?_
  clear E a; intro a E
  refine D_v E rfl rfl rfl (fun w hC => (R_move E rfl)) ?_
  clear E a; intro a E
  refine D_v E rfl rfl rfl (fun w hC => (R_fieldAddr E rfl (FA40_2 _))) ?_
  clear E a; intro a E
  refine D_v E rfl rfl rfl (fun w hC => (R_loadM E rfl Tryz.isAgg3 hC.1 (cellM_boxo hb_1k3 rfl))) ?_
  clear E a; intro a E
  refine D_v E rfl rfl rfl (fun w hC => (R_move E rfl)) ?_
  clear E a; intro a E
  refine D_v E rfl rfl rfl (fun w hC => (R_fieldAddr E rfl (FA40_3 _))) ?_
  clear E a; intro a E
  refine D_v E rfl rfl rfl (fun w hC => (R_loadM E rfl Tryz.isAgg3 hC.1 (cellM_boxo hb_1k3 rfl))) ?_
  clear E a; intro a E
  refine D_x rfl rfl rfl (X_pu E S rfl rfl rfl (impl_mod (by first | omega | assumption) (by omega)) (Hp.le.refl _) ?_)
  clear E a S; rintro a _ w M_9 hM_9 rfl S E
  replace h2 := h2.le hM_9
  replace hb_1 := hM_9.2 _ _ hb_1
  refine ⟨fun x hq hb => ⟨(agree_le hM_9 S.imm), (fun _ => cellR S hp_4 hx_5), (fun _ => cellR S hp_6 hx_7)⟩, ?_⟩
  refine D_v E rfl rfl rfl (fun w hC => (R_idx E rfl rfl T62 hp_4 (by omega))) ?_
  clear E a; intro a E
  refine D_v E rfl rfl rfl (fun w hC => (R_load E rfl (Tryz.isAgg55 _) (hC.2.1 rfl))) ?_
  clear E a; intro a E
  refine D_x rfl rfl rfl (X_pu E S rfl rfl rfl (impl_mod (by first | omega | assumption) (by omega)) (Hp.le.refl _) ?_)
  clear E a S; rintro a _ w M_10 hM_10 rfl S E
  replace h2 := h2.le hM_10
  replace hb_1 := hM_10.2 _ _ hb_1
  refine ⟨fun x hq hb => ⟨(agree_le (hM_9.trans hM_10) S.imm), (fun _ => cellR S hp_4 hx_5), (fun _ => cellR S hp_6 hx_7)⟩, ?_⟩
  refine D_v E rfl rfl rfl (fun w hC => (R_idx E rfl rfl T62 hp_6 (by omega))) ?_
  clear E a; intro a E
  refine D_v E rfl rfl rfl (fun w hC => (R_load E rfl (Tryz.isAgg55 _) (hC.2.2 rfl))) ?_
  clear E a; intro a E
  refine D_x rfl rfl rfl (X_pu E S rfl rfl rfl (impl_mod (by first | omega | assumption) (by omega)) (Hp.le.refl _) ?_)
  clear E a S; rintro a _ w M_11 hM_11 rfl S E
  replace h2 := h2.le hM_11
  replace hb_1 := hM_11.2 _ _ hb_1
  refine ⟨fun x hq hb => ⟨(agree_le (hM_9.trans (hM_10.trans hM_11)) S.imm), (fun _ => cellR S hp_4 hx_5), (fun _ => cellR S hp_6 hx_7)⟩, ?_⟩
  refine D_v E rfl rfl rfl (fun w hC => (R_idx E rfl rfl T62 hp_8 (by omega))) ?_
  clear E a; intro a E
  refine D_v E rfl rfl rfl (fun w hC => (R_assign E rfl)) ?_
  clear E a; intro a E
  refine D_v E rfl rfl rfl (fun w hC => (R_assign E rfl)) ?_
  clear E a; intro a E
  refine D_v E rfl rfl rfl (fun w hC => (R_assign E rfl)) ?_
  clear E a; intro a E
  refine D_end (NoP_n ?_)
  refine T_n ?_
  refine WP_seq ?_
  refine WP_seq ?_
  refine WP_region ?_
  refine S_v E rfl (R_fieldAddr E rfl (FA40_0 _)) rfl ?_
  clear E a; intro a E
  refine S_v E rfl (R_loadM E rfl Tryz.isAgg3 S.imm (cellM_boxo hb_1 rfl)) rfl ?_
  clear E a; intro a E
  refine WL_nil ?_
  refine T_n ?_
  refine WP_block ?_
  refine WP_seq ?_
  refine WP_region ?_
  refine S_v E rfl (R_eql E rfl rfl) rfl ?_
  clear E a; intro a E
  refine S_v E rfl (R_assign E rfl) rfl ?_
  clear E a; intro a E
  refine WL_nil ?_
  refine T_n ?_
  refine WP_cond E rfl (fun hc_12 => ?_) (fun hc_12 => ?_)
  · replace hc_12 := of_decide_eq_true hc_12
    refine WP_region ?_
    refine S_v E rfl (R_move E rfl) rfl ?_
    clear E a; intro a E
    refine S_v E rfl (R_move E rfl) rfl ?_
    clear E a; intro a E
    refine S_v E rfl (R_fieldAddr E rfl (FA40_5 _)) rfl ?_
    clear E a; intro a E
    refine S_v E rfl (R_loadM E rfl Tryz.isAgg22 S.imm (cellM_boxo hb_1 rfl)) rfl ?_
    clear E a; intro a E
    refine S_x (X_sp (p := []) E S rfl rfl rfl (reg_setOf h2 (by first | assumption | omega | (simp; done))) (Hp.le.refl _) ?_)
    clear E a S; rintro a _ w M_13 _ hM_13 ⟨x_14, rfl, rfl, hx_15⟩ S E
    replace S : St w M_13 (SetI KS x0 x_14 :: Regs KS x0 v1 t9 :: blk b_3 (.cells #[.bool false, .int .i64 0, .slice none 0 0] 42) :: H) := S
    replace h2 := h2.le hM_13
    replace hb_1 := hM_13.2 _ _ hb_1
    refine S_v E rfl (R_nilCheck E rfl rfl) rfl ?_
    clear E a; intro a E
    replace S := S.front1
    refine S_x0 (X_storeR (x' := x_14) E S rfl rfl (Tryz.sizeOf55 _) hp_8 hkp_8 ?_)
    clear E a S; rintro a w E S
    refine WL_nil ?_
    refine B_n ?_
    refine T_n ?_
    refine WP_seq ?_
    refine WP_region ?_
    refine S_v E rfl (R_loadGB (cs := [.bool false, .int .i64 0, .slice none 0 0]) E rfl (Tryz.isAgg42 _) (Tryz.sizeOf42 _) (S.mem (.tail _ (.head _)))) rfl ?_
    clear E a; intro a E
    replace S := S.front1
    refine S_x0 (X_storeG (us := [.bool false, .int .i64 0, .slice none 0 0]) E S rfl rfl (Tryz.sizeOf42 _) rfl (by intro u hu; simp only [List.mem_cons, List.not_mem_nil, or_false] at hu; rcases hu with rfl | rfl | rfl <;> first | exact rfl | exact rfl | exact rfl) ?_)
    clear E a S; rintro a w E S
    replace S : St w M_13 (blk b_3 (.cells #[.bool false, .int .i64 0, .slice none 0 0] 42) :: _) := S
    refine WL_nil ?_
    refine T_n ?_
    refine WP_ret ?_
    replace S : St w M_13 (mks [] :: _) := S.empty
    replace E : Env a 215 (([] : List Nat).map mk) _ := E
    replace S := S.front2
    replace S := S.front2
    replace S := S.front2
    exact F_retCG1 (cs := [.bool false, .int .i64 0, .slice none 0 0]) E S Tryz.results42 rfl (fun w => Tryz.isAgg42 w) (fun w => Tryz.sizeOf42 w) (fun w S => ⟨_, rfl, M_13, _, (hM_2.trans (hM_9.trans (hM_10.trans (hM_11.trans hM_13)))), ⟨_, _, _, _, ([] : List Int), rfl, rfl, (by exact RdS.nil _), (by (simp [hl]; done)), (by (rw [show (lsT t9).getD (regN sa) [] = x_5.2.2 from lsT_at hx_5, show (lsT t9).getD (regN sb) [] = x_7.2.2 from lsT_at hx_7]; (try simp only [lsT_set]); first | exact step23 (by assumption) (by assumption) (by assumption) | exact step25 (by assumption) (by assumption) (by assumption) (by assumption) | (simp [StepR, RG.w, regN, *]; done)))⟩, S.drop⟩)
  · replace hc_12 := of_decide_eq_false hc_12
    refine WP_seq ?_
    refine WP_region ?_
    refine S_v E rfl (R_eql E rfl rfl) rfl ?_
    clear E a; intro a E
    refine S_v E rfl (R_assign E rfl) rfl ?_
    clear E a; intro a E
    refine WL_nil ?_
    refine T_n ?_
    refine WP_cond E rfl (fun hc_16 => ?_) (fun hc_16 => ?_)
    · replace hc_16 := of_decide_eq_true hc_16
      refine WP_region ?_
      refine S_v E rfl (R_move E rfl) rfl ?_
      clear E a; intro a E
      refine S_v E rfl (R_fieldAddr E rfl (FA40_4 _)) rfl ?_
      clear E a; intro a E
      refine S_v E rfl (R_loadM E rfl Tryz.isAgg3 S.imm (cellM_boxo hb_1 rfl)) rfl ?_
      clear E a; intro a E
      refine S_x (X_inv (p := [Regs KS x0 v1 t9]) E S rfl rfl rfl (reg_Add hx_5) (Hp.le.refl _) ?_)
      clear E a S; rintro a _ w M_17 _ hM_17 ⟨_, _, rfl, rfl, rfl, rfl⟩ S E
      replace S : St w M_17 (Regs KS x0 v1 ((t9).set ((sa % 8).toNat) (x_5.w (setI (x_5.2.2 ++ [sx])))) :: blk b_3 (.cells #[.bool false, .int .i64 0, .slice none 0 0] 42) :: H) := S
      replace h2 := h2.le hM_17
      replace hb_1 := hM_17.2 _ _ hb_1
      refine S_v E rfl (R_fieldAddr E rfl (FA42_0 _)) rfl ?_
      clear E a; intro a E
      replace S := S.front1
      refine S_x0 (X_storeB (f := 0) E S rfl rfl (Tryz.sizeOf4 _) rfl rfl ?_)
      clear E a S; rintro a w E S
      replace S : St w M_17 (blk b_3 (.cells #[.bool (decide (sx ∉ x_5.2.2)), .int .i64 0, .slice none 0 0] 42) :: _) := S
      refine WL_nil ?_
      refine B_n ?_
      refine T_n ?_
      refine WP_seq ?_
      refine WP_region ?_
      refine S_v E rfl (R_loadGB (cs := [.bool (decide (sx ∉ x_5.2.2)), .int .i64 0, .slice none 0 0]) E rfl (Tryz.isAgg42 _) (Tryz.sizeOf42 _) (S.mem (.head _))) rfl ?_
      clear E a; intro a E
      refine S_x0 (X_storeG (us := [.bool (decide (sx ∉ x_5.2.2)), .int .i64 0, .slice none 0 0]) E S rfl rfl (Tryz.sizeOf42 _) rfl (by intro u hu; simp only [List.mem_cons, List.not_mem_nil, or_false] at hu; rcases hu with rfl | rfl | rfl <;> first | exact rfl | exact rfl | exact rfl) ?_)
      clear E a S; rintro a w E S
      replace S : St w M_17 (blk b_3 (.cells #[.bool (decide (sx ∉ x_5.2.2)), .int .i64 0, .slice none 0 0] 42) :: _) := S
      refine WL_nil ?_
      refine T_n ?_
      refine WP_ret ?_
      replace S : St w M_17 (mks [] :: _) := S.empty
      replace E : Env a 215 (([] : List Nat).map mk) _ := E
      replace S := S.front2
      replace S := S.front2
      replace S := S.front2
      exact F_retCG1 (cs := [.bool (decide (sx ∉ x_5.2.2)), .int .i64 0, .slice none 0 0]) E S Tryz.results42 rfl (fun w => Tryz.isAgg42 w) (fun w => Tryz.sizeOf42 w) (fun w S => ⟨_, rfl, M_17, _, (hM_2.trans (hM_9.trans (hM_10.trans (hM_11.trans hM_17)))), ⟨_, _, _, _, ([] : List Int), rfl, rfl, (by exact RdS.nil _), (by (simp [hl]; done)), (by (rw [show (lsT t9).getD (regN sa) [] = x_5.2.2 from lsT_at hx_5, show (lsT t9).getD (regN sb) [] = x_7.2.2 from lsT_at hx_7]; (try simp only [lsT_set]); first | exact step23 (by assumption) (by assumption) (by assumption) | exact step25 (by assumption) (by assumption) (by assumption) (by assumption) | (simp [StepR, RG.w, regN, *]; done)))⟩, S.drop⟩)
    · replace hc_16 := of_decide_eq_false hc_16
      refine WP_seq ?_
      refine WP_region ?_
      refine S_v E rfl (R_eql E rfl rfl) rfl ?_
      clear E a; intro a E
      refine S_v E rfl (R_assign E rfl) rfl ?_
      clear E a; intro a E
      refine WL_nil ?_
      refine T_n ?_
      refine WP_cond E rfl (fun hc_18 => ?_) (fun hc_18 => ?_)
      · replace hc_18 := of_decide_eq_true hc_18
        refine WP_region ?_
        refine S_v E rfl (R_move E rfl) rfl ?_
        clear E a; intro a E
        refine S_v E rfl (R_fieldAddr E rfl (FA40_5 _)) rfl ?_
        clear E a; intro a E
        refine S_v E rfl (R_loadM E rfl Tryz.isAgg22 S.imm (cellM_boxo hb_1 rfl)) rfl ?_
        clear E a; intro a E
        refine S_x (X_inv (p := [Regs KS x0 v1 t9]) E S rfl rfl rfl (reg_Append hx_5 h2 (by omega) (by exact hbt _ _ hx_5)) (Hp.le.refl _) ?_)
        clear E a S; rintro a _ w M_19 _ hM_19 ⟨_, _, rfl, rfl, rfl, rfl⟩ S E
        replace S : St w M_19 (Regs KS x0 v1 ((t9).set ((sa % 8).toNat) (x_5.w (setI (x_5.2.2 ++ l2)))) :: blk b_3 (.cells #[.bool false, .int .i64 0, .slice none 0 0] 42) :: H) := S
        replace h2 := h2.le hM_19
        replace hb_1 := hM_19.2 _ _ hb_1
        refine S_v E rfl (R_fieldAddr E rfl (FA42_1 _)) rfl ?_
        clear E a; intro a E
        replace S := S.front1
        refine S_x0 (X_storeB (f := 1) E S rfl rfl (Tryz.sizeOf3 _) rfl rfl ?_)
        clear E a S; rintro a w E S
        replace S : St w M_19 (blk b_3 (.cells #[.bool false, .int .i64 (((setI (x_5.2.2 ++ l2)).length : Nat) - ((card x_5.2.2 : Nat) : Int)), .slice none 0 0] 42) :: _) := S
        refine WL_nil ?_
        refine B_n ?_
        refine T_n ?_
        refine WP_seq ?_
        refine WP_region ?_
        refine S_v E rfl (R_loadGB (cs := [.bool false, .int .i64 (((setI (x_5.2.2 ++ l2)).length : Nat) - ((card x_5.2.2 : Nat) : Int)), .slice none 0 0]) E rfl (Tryz.isAgg42 _) (Tryz.sizeOf42 _) (S.mem (.head _))) rfl ?_
        clear E a; intro a E
        refine S_x0 (X_storeG (us := [.bool false, .int .i64 (((setI (x_5.2.2 ++ l2)).length : Nat) - ((card x_5.2.2 : Nat) : Int)), .slice none 0 0]) E S rfl rfl (Tryz.sizeOf42 _) rfl (by intro u hu; simp only [List.mem_cons, List.not_mem_nil, or_false] at hu; rcases hu with rfl | rfl | rfl <;> first | exact rfl | exact rfl | exact rfl) ?_)
        clear E a S; rintro a w E S
        replace S : St w M_19 (blk b_3 (.cells #[.bool false, .int .i64 (((setI (x_5.2.2 ++ l2)).length : Nat) - ((card x_5.2.2 : Nat) : Int)), .slice none 0 0] 42) :: _) := S
        refine WL_nil ?_
        refine T_n ?_
        refine WP_ret ?_
        replace S : St w M_19 (mks [] :: _) := S.empty
        replace E : Env a 215 (([] : List Nat).map mk) _ := E
        replace S := S.front2
        replace S := S.front2
        replace S := S.front2
        exact F_retCG1 (cs := [.bool false, .int .i64 (((setI (x_5.2.2 ++ l2)).length : Nat) - ((card x_5.2.2 : Nat) : Int)), .slice none 0 0]) E S Tryz.results42 rfl (fun w => Tryz.isAgg42 w) (fun w => Tryz.sizeOf42 w) (fun w S => ⟨_, rfl, M_19, _, (hM_2.trans (hM_9.trans (hM_10.trans (hM_11.trans hM_19)))), ⟨_, _, _, _, ([] : List Int), rfl, rfl, (by exact RdS.nil _), (by (simp [hl]; done)), (by (rw [show (lsT t9).getD (regN sa) [] = x_5.2.2 from lsT_at hx_5, show (lsT t9).getD (regN sb) [] = x_7.2.2 from lsT_at hx_7]; (try simp only [lsT_set]); first | exact step23 (by assumption) (by assumption) (by assumption) | exact step25 (by assumption) (by assumption) (by assumption) (by assumption) | (simp [StepR, RG.w, regN, *]; done)))⟩, S.drop⟩)
      · replace hc_18 := of_decide_eq_false hc_18
        refine WP_seq ?_
        refine WP_region ?_
        refine S_v E rfl (R_eql E rfl rfl) rfl ?_
        clear E a; intro a E
        refine S_v E rfl (R_assign E rfl) rfl ?_
        clear E a; intro a E
        refine WL_nil ?_
        refine T_n ?_
        refine WP_cond E rfl (fun hc_20 => ?_) (fun hc_20 => ?_)
        · replace hc_20 := of_decide_eq_true hc_20
          refine WP_region ?_
          refine S_v E rfl (R_move E rfl) rfl ?_
          clear E a; intro a E
          refine S_v E rfl (R_fieldAddr E rfl (FA40_4 _)) rfl ?_
          clear E a; intro a E
          refine S_v E rfl (R_loadM E rfl Tryz.isAgg3 S.imm (cellM_boxo hb_1 rfl)) rfl ?_
          clear E a; intro a E
          refine S_x (X_inv (p := [Regs KS x0 v1 t9]) E S rfl rfl rfl (reg_Remove hx_5) (Hp.le.refl _) ?_)
          clear E a S; rintro a _ w M_21 _ hM_21 ⟨_, _, rfl, rfl, rfl, rfl⟩ S E
          replace S : St w M_21 (Regs KS x0 v1 ((t9).set ((sa % 8).toNat) (x_5.w (setDif x_5.2.2 [sx]))) :: blk b_3 (.cells #[.bool false, .int .i64 0, .slice none 0 0] 42) :: H) := S
          replace h2 := h2.le hM_21
          replace hb_1 := hM_21.2 _ _ hb_1
          refine WL_nil ?_
          refine B_n ?_
          refine T_n ?_
          refine WP_seq ?_
          refine WP_region ?_
          refine S_v E rfl (R_loadGB (cs := [.bool false, .int .i64 0, .slice none 0 0]) E rfl (Tryz.isAgg42 _) (Tryz.sizeOf42 _) (S.mem (.tail _ (.head _)))) rfl ?_
          clear E a; intro a E
          replace S := S.front1
          refine S_x0 (X_storeG (us := [.bool false, .int .i64 0, .slice none 0 0]) E S rfl rfl (Tryz.sizeOf42 _) rfl (by intro u hu; simp only [List.mem_cons, List.not_mem_nil, or_false] at hu; rcases hu with rfl | rfl | rfl <;> first | exact rfl | exact rfl | exact rfl) ?_)
          clear E a S; rintro a w E S
          replace S : St w M_21 (blk b_3 (.cells #[.bool false, .int .i64 0, .slice none 0 0] 42) :: _) := S
          refine WL_nil ?_
          refine T_n ?_
          refine WP_ret ?_
          replace S : St w M_21 (mks [] :: _) := S.empty
          replace E : Env a 215 (([] : List Nat).map mk) _ := E
          replace S := S.front2
          replace S := S.front2
          replace S := S.front2
          exact F_retCG1 (cs := [.bool false, .int .i64 0, .slice none 0 0]) E S Tryz.results42 rfl (fun w => Tryz.isAgg42 w) (fun w => Tryz.sizeOf42 w) (fun w S => ⟨_, rfl, M_21, _, (hM_2.trans (hM_9.trans (hM_10.trans (hM_11.trans hM_21)))), ⟨_, _, _, _, ([] : List Int), rfl, rfl, (by exact RdS.nil _), (by (simp [hl]; done)), (by (rw [show (lsT t9).getD (regN sa) [] = x_5.2.2 from lsT_at hx_5, show (lsT t9).getD (regN sb) [] = x_7.2.2 from lsT_at hx_7]; (try simp only [lsT_set]); first | exact step23 (by assumption) (by assumption) (by assumption) | exact step25 (by assumption) (by assumption) (by assumption) (by assumption) | (simp [StepR, RG.w, regN, *]; done)))⟩, S.drop⟩)
        · replace hc_20 := of_decide_eq_false hc_20
          refine WP_seq ?_
          refine WP_region ?_
          refine S_v E rfl (R_eql E rfl rfl) rfl ?_
          clear E a; intro a E
          refine S_v E rfl (R_assign E rfl) rfl ?_
          clear E a; intro a E
          refine WL_nil ?_
          refine T_n ?_
          refine WP_cond E rfl (fun hc_22 => ?_) (fun hc_22 => ?_)
          · replace hc_22 := of_decide_eq_true hc_22
            refine WP_region ?_
            refine S_v E rfl (R_move E rfl) rfl ?_
            clear E a; intro a E
            refine S_v E rfl (R_fieldAddr E rfl (FA40_5 _)) rfl ?_
            clear E a; intro a E
            refine S_v E rfl (R_loadM E rfl Tryz.isAgg22 S.imm (cellM_boxo hb_1 rfl)) rfl ?_
            clear E a; intro a E
            refine S_x (X_inv (p := [Regs KS x0 v1 t9]) E S rfl rfl rfl (reg_RemoveAll hx_5 h2) (Hp.le.refl _) ?_)
            clear E a S; rintro a _ w M_23 _ hM_23 ⟨_, _, rfl, rfl, rfl, rfl⟩ S E
            replace S : St w M_23 (Regs KS x0 v1 ((t9).set ((sa % 8).toNat) (x_5.w (setDif x_5.2.2 l2))) :: blk b_3 (.cells #[.bool false, .int .i64 0, .slice none 0 0] 42) :: H) := S
            replace h2 := h2.le hM_23
            replace hb_1 := hM_23.2 _ _ hb_1
            refine WL_nil ?_
            refine B_n ?_
            refine T_n ?_
            refine WP_seq ?_
            refine WP_region ?_
            refine S_v E rfl (R_loadGB (cs := [.bool false, .int .i64 0, .slice none 0 0]) E rfl (Tryz.isAgg42 _) (Tryz.sizeOf42 _) (S.mem (.tail _ (.head _)))) rfl ?_
            clear E a; intro a E
            replace S := S.front1
            refine S_x0 (X_storeG (us := [.bool false, .int .i64 0, .slice none 0 0]) E S rfl rfl (Tryz.sizeOf42 _) rfl (by intro u hu; simp only [List.mem_cons, List.not_mem_nil, or_false] at hu; rcases hu with rfl | rfl | rfl <;> first | exact rfl | exact rfl | exact rfl) ?_)
            clear E a S; rintro a w E S
            replace S : St w M_23 (blk b_3 (.cells #[.bool false, .int .i64 0, .slice none 0 0] 42) :: _) := S
            refine WL_nil ?_
            refine T_n ?_
            refine WP_ret ?_
            replace S : St w M_23 (mks [] :: _) := S.empty
            replace E : Env a 215 (([] : List Nat).map mk) _ := E
            replace S := S.front2
            replace S := S.front2
            replace S := S.front2
            exact F_retCG1 (cs := [.bool false, .int .i64 0, .slice none 0 0]) E S Tryz.results42 rfl (fun w => Tryz.isAgg42 w) (fun w => Tryz.sizeOf42 w) (fun w S => ⟨_, rfl, M_23, _, (hM_2.trans (hM_9.trans (hM_10.trans (hM_11.trans hM_23)))), ⟨_, _, _, _, ([] : List Int), rfl, rfl, (by exact RdS.nil _), (by (simp [hl]; done)), (by (rw [show (lsT t9).getD (regN sa) [] = x_5.2.2 from lsT_at hx_5, show (lsT t9).getD (regN sb) [] = x_7.2.2 from lsT_at hx_7]; (try simp only [lsT_set]); first | exact step23 (by assumption) (by assumption) (by assumption) | exact step25 (by assumption) (by assumption) (by assumption) (by assumption) | (simp [StepR, RG.w, regN, *]; done)))⟩, S.drop⟩)
          · replace hc_22 := of_decide_eq_false hc_22
            refine WP_seq ?_
            refine WP_region ?_
            refine S_v E rfl (R_eql E rfl rfl) rfl ?_
            clear E a; intro a E
            refine S_v E rfl (R_assign E rfl) rfl ?_
            clear E a; intro a E
            refine WL_nil ?_
            refine T_n ?_
            refine WP_cond E rfl (fun hc_24 => ?_) (fun hc_24 => ?_)
            · replace hc_24 := of_decide_eq_true hc_24
              refine WP_region ?_
              refine S_v E rfl (R_move E rfl) rfl ?_
              clear E a; intro a E
              refine S_x (X_inv (p := [Regs KS x0 v1 t9]) E S rfl rfl rfl (reg_Clear hx_5) (Hp.le.refl _) ?_)
              clear E a S; rintro a _ w M_25 _ hM_25 ⟨_, _, rfl, rfl, rfl, rfl⟩ S E
              replace S : St w M_25 (Regs KS x0 v1 ((t9).set ((sa % 8).toNat) (x_5.w ([]))) :: blk b_3 (.cells #[.bool false, .int .i64 0, .slice none 0 0] 42) :: H) := S
              replace h2 := h2.le hM_25
              replace hb_1 := hM_25.2 _ _ hb_1
              refine WL_nil ?_
              refine B_n ?_
              refine T_n ?_
              refine WP_seq ?_
              refine WP_region ?_
              refine S_v E rfl (R_loadGB (cs := [.bool false, .int .i64 0, .slice none 0 0]) E rfl (Tryz.isAgg42 _) (Tryz.sizeOf42 _) (S.mem (.tail _ (.head _)))) rfl ?_
              clear E a; intro a E
              replace S := S.front1
              refine S_x0 (X_storeG (us := [.bool false, .int .i64 0, .slice none 0 0]) E S rfl rfl (Tryz.sizeOf42 _) rfl (by intro u hu; simp only [List.mem_cons, List.not_mem_nil, or_false] at hu; rcases hu with rfl | rfl | rfl <;> first | exact rfl | exact rfl | exact rfl) ?_)
              clear E a S; rintro a w E S
              replace S : St w M_25 (blk b_3 (.cells #[.bool false, .int .i64 0, .slice none 0 0] 42) :: _) := S
              refine WL_nil ?_
              refine T_n ?_
              refine WP_ret ?_
              replace S : St w M_25 (mks [] :: _) := S.empty
              replace E : Env a 215 (([] : List Nat).map mk) _ := E
              replace S := S.front2
              replace S := S.front2
              replace S := S.front2
              exact F_retCG1 (cs := [.bool false, .int .i64 0, .slice none 0 0]) E S Tryz.results42 rfl (fun w => Tryz.isAgg42 w) (fun w => Tryz.sizeOf42 w) (fun w S => ⟨_, rfl, M_25, _, (hM_2.trans (hM_9.trans (hM_10.trans (hM_11.trans hM_25)))), ⟨_, _, _, _, ([] : List Int), rfl, rfl, (by exact RdS.nil _), (by (simp [hl]; done)), (by (rw [show (lsT t9).getD (regN sa) [] = x_5.2.2 from lsT_at hx_5, show (lsT t9).getD (regN sb) [] = x_7.2.2 from lsT_at hx_7]; (try simp only [lsT_set]); first | exact step23 (by assumption) (by assumption) (by assumption) | exact step25 (by assumption) (by assumption) (by assumption) (by assumption) | (simp [StepR, RG.w, regN, *]; done)))⟩, S.drop⟩)
            · replace hc_24 := of_decide_eq_false hc_24
              refine WP_seq ?_
              refine WP_region ?_
              refine S_v E rfl (R_eql E rfl rfl) rfl ?_
              clear E a; intro a E
              refine S_v E rfl (R_assign E rfl) rfl ?_
              clear E a; intro a E
              refine WL_nil ?_
              refine T_n ?_
              refine WP_cond E rfl (fun hc_26 => ?_) (fun hc_26 => ?_)
              · replace hc_26 := of_decide_eq_true hc_26
                refine WP_region ?_
                refine S_v E rfl (R_move E rfl) rfl ?_
                clear E a; intro a E
                refine S_v E rfl (R_move E rfl) rfl ?_
                clear E a; intro a E
                refine S_x (X_inv (p := [Regs KS x0 v1 t9]) E S rfl rfl rfl (reg_Clone hx_5 (by exact hbt _ _ hx_5)) (Hp.le.refl _) ?_)
                clear E a S; rintro a _ w M_27 _ hM_27 ⟨_, rfl, x_28, rfl, hx_28, rfl⟩ S E
                replace S : St w M_27 (Regs KS x0 v1 t9 :: SetI KS x0 x_28 :: blk b_3 (.cells #[.bool false, .int .i64 0, .slice none 0 0] 42) :: H) := S
                replace h2 := h2.le hM_27
                replace hb_1 := hM_27.2 _ _ hb_1
                refine S_v E rfl (R_nilCheck E rfl rfl) rfl ?_
                clear E a; intro a E
                replace S := S.front1
                replace S := S.front1
                refine S_x0 (X_storeR (x' := x_28) E S rfl rfl (Tryz.sizeOf55 _) hp_8 hkp_8 ?_)
                clear E a S; rintro a w E S
                refine WL_nil ?_
                refine B_n ?_
                refine T_n ?_
                refine WP_seq ?_
                refine WP_region ?_
                refine S_v E rfl (R_loadGB (cs := [.bool false, .int .i64 0, .slice none 0 0]) E rfl (Tryz.isAgg42 _) (Tryz.sizeOf42 _) (S.mem (.tail _ (.head _)))) rfl ?_
                clear E a; intro a E
                replace S := S.front1
                refine S_x0 (X_storeG (us := [.bool false, .int .i64 0, .slice none 0 0]) E S rfl rfl (Tryz.sizeOf42 _) rfl (by intro u hu; simp only [List.mem_cons, List.not_mem_nil, or_false] at hu; rcases hu with rfl | rfl | rfl <;> first | exact rfl | exact rfl | exact rfl) ?_)
                clear E a S; rintro a w E S
                replace S : St w M_27 (blk b_3 (.cells #[.bool false, .int .i64 0, .slice none 0 0] 42) :: _) := S
                refine WL_nil ?_
                refine T_n ?_
                refine WP_ret ?_
                replace S : St w M_27 (mks [] :: _) := S.empty
                replace E : Env a 215 (([] : List Nat).map mk) _ := E
                replace S := S.front2
                replace S := S.front2
                replace S := S.front2
                exact F_retCG1 (cs := [.bool false, .int .i64 0, .slice none 0 0]) E S Tryz.results42 rfl (fun w => Tryz.isAgg42 w) (fun w => Tryz.sizeOf42 w) (fun w S => ⟨_, rfl, M_27, _, (hM_2.trans (hM_9.trans (hM_10.trans (hM_11.trans hM_27)))), ⟨_, _, _, _, ([] : List Int), rfl, rfl, (by exact RdS.nil _), (by (simp [hl]; done)), (by (rw [show (lsT t9).getD (regN sa) [] = x_5.2.2 from lsT_at hx_5, show (lsT t9).getD (regN sb) [] = x_7.2.2 from lsT_at hx_7]; (try simp only [lsT_set]); first | exact step23 (by assumption) (by assumption) (by assumption) | exact step25 (by assumption) (by assumption) (by assumption) (by assumption) | (simp [StepR, RG.w, regN, *]; done)))⟩, S.drop⟩)
              · replace hc_26 := of_decide_eq_false hc_26
                refine WP_seq ?_
                refine WP_region ?_
                refine S_v E rfl (R_eql E rfl rfl) rfl ?_
                clear E a; intro a E
                refine S_v E rfl (R_assign E rfl) rfl ?_
                clear E a; intro a E
                refine WL_nil ?_
                refine T_n ?_
                refine WP_cond E rfl (fun hc_29 => ?_) (fun hc_29 => ?_)
                · replace hc_29 := of_decide_eq_true hc_29
                  refine WP_region ?_
                  refine S_v E rfl (R_move E rfl) rfl ?_
                  clear E a; intro a E
                  refine S_v E rfl (R_move E rfl) rfl ?_
                  clear E a; intro a E
                  refine S_v E rfl (R_move E rfl) rfl ?_
                  clear E a; intro a E
                  refine S_x (X_inv (p := [Regs KS x0 v1 t9]) E S rfl rfl rfl (reg_Union hx_5 hx_7 (by exact hbt _ _ hx_5) (by exact hbt _ _ hx_7)) (Hp.le.refl _) ?_)
                  clear E a S; rintro a _ w M_30 _ hM_30 ⟨_, rfl, x_31, rfl, hx_31, rfl⟩ S E
                  replace S : St w M_30 (Regs KS x0 v1 t9 :: SetI KS x0 x_31 :: blk b_3 (.cells #[.bool false, .int .i64 0, .slice none 0 0] 42) :: H) := S
                  replace h2 := h2.le hM_30
                  replace hb_1 := hM_30.2 _ _ hb_1
                  refine S_v E rfl (R_nilCheck E rfl rfl) rfl ?_
                  clear E a; intro a E
                  replace S := S.front1
                  replace S := S.front1
                  refine S_x0 (X_storeR (x' := x_31) E S rfl rfl (Tryz.sizeOf55 _) hp_8 hkp_8 ?_)
                  clear E a S; rintro a w E S
                  refine WL_nil ?_
                  refine B_n ?_
                  refine T_n ?_
                  refine WP_seq ?_
                  refine WP_region ?_
                  refine S_v E rfl (R_loadGB (cs := [.bool false, .int .i64 0, .slice none 0 0]) E rfl (Tryz.isAgg42 _) (Tryz.sizeOf42 _) (S.mem (.tail _ (.head _)))) rfl ?_
                  clear E a; intro a E
                  replace S := S.front1
                  refine S_x0 (X_storeG (us := [.bool false, .int .i64 0, .slice none 0 0]) E S rfl rfl (Tryz.sizeOf42 _) rfl (by intro u hu; simp only [List.mem_cons, List.not_mem_nil, or_false] at hu; rcases hu with rfl | rfl | rfl <;> first | exact rfl | exact rfl | exact rfl) ?_)
                  clear E a S; rintro a w E S
                  replace S : St w M_30 (blk b_3 (.cells #[.bool false, .int .i64 0, .slice none 0 0] 42) :: _) := S
                  refine WL_nil ?_
                  refine T_n ?_
                  refine WP_ret ?_
                  replace S : St w M_30 (mks [] :: _) := S.empty
                  replace E : Env a 215 (([] : List Nat).map mk) _ := E
                  replace S := S.front2
                  replace S := S.front2
                  replace S := S.front2
                  exact F_retCG1 (cs := [.bool false, .int .i64 0, .slice none 0 0]) E S Tryz.results42 rfl (fun w => Tryz.isAgg42 w) (fun w => Tryz.sizeOf42 w) (fun w S => ⟨_, rfl, M_30, _, (hM_2.trans (hM_9.trans (hM_10.trans (hM_11.trans hM_30)))), ⟨_, _, _, _, ([] : List Int), rfl, rfl, (by exact RdS.nil _), (by (simp [hl]; done)), (by (rw [show (lsT t9).getD (regN sa) [] = x_5.2.2 from lsT_at hx_5, show (lsT t9).getD (regN sb) [] = x_7.2.2 from lsT_at hx_7]; (try simp only [lsT_set]); first | exact step23 (by assumption) (by assumption) (by assumption) | exact step25 (by assumption) (by assumption) (by assumption) (by assumption) | (simp [StepR, RG.w, regN, *]; done)))⟩, S.drop⟩)
                · replace hc_29 := of_decide_eq_false hc_29
                  refine WP_seq ?_
                  refine WP_region ?_
                  refine S_v E rfl (R_eql E rfl rfl) rfl ?_
                  clear E a; intro a E
                  refine S_v E rfl (R_assign E rfl) rfl ?_
                  clear E a; intro a E
                  refine WL_nil ?_
                  refine T_n ?_
                  refine WP_cond E rfl (fun hc_32 => ?_) (fun hc_32 => ?_)
                  · replace hc_32 := of_decide_eq_true hc_32
                    refine WP_region ?_
                    refine S_v E rfl (R_move E rfl) rfl ?_
                    clear E a; intro a E
                    refine S_v E rfl (R_move E rfl) rfl ?_
                    clear E a; intro a E
                    refine S_v E rfl (R_move E rfl) rfl ?_
                    clear E a; intro a E
                    refine S_x (X_inv (p := [Regs KS x0 v1 t9]) E S rfl rfl rfl (reg_Intersect hx_5 hx_7 (by exact hbt _ _ hx_5) (by exact hbt _ _ hx_7)) (Hp.le.refl _) ?_)
                    clear E a S; rintro a _ w M_33 _ hM_33 ⟨_, rfl, x_34, rfl, hx_34, rfl⟩ S E
                    replace S : St w M_33 (Regs KS x0 v1 t9 :: SetI KS x0 x_34 :: blk b_3 (.cells #[.bool false, .int .i64 0, .slice none 0 0] 42) :: H) := S
                    replace h2 := h2.le hM_33
                    replace hb_1 := hM_33.2 _ _ hb_1
                    refine S_v E rfl (R_nilCheck E rfl rfl) rfl ?_
                    clear E a; intro a E
                    replace S := S.front1
                    replace S := S.front1
                    refine S_x0 (X_storeR (x' := x_34) E S rfl rfl (Tryz.sizeOf55 _) hp_8 hkp_8 ?_)
                    clear E a S; rintro a w E S
                    refine WL_nil ?_
                    refine B_n ?_
                    refine T_n ?_
                    refine WP_seq ?_
                    refine WP_region ?_
                    refine S_v E rfl (R_loadGB (cs := [.bool false, .int .i64 0, .slice none 0 0]) E rfl (Tryz.isAgg42 _) (Tryz.sizeOf42 _) (S.mem (.tail _ (.head _)))) rfl ?_
                    clear E a; intro a E
                    replace S := S.front1
                    refine S_x0 (X_storeG (us := [.bool false, .int .i64 0, .slice none 0 0]) E S rfl rfl (Tryz.sizeOf42 _) rfl (by intro u hu; simp only [List.mem_cons, List.not_mem_nil, or_false] at hu; rcases hu with rfl | rfl | rfl <;> first | exact rfl | exact rfl | exact rfl) ?_)
                    clear E a S; rintro a w E S
                    replace S : St w M_33 (blk b_3 (.cells #[.bool false, .int .i64 0, .slice none 0 0] 42) :: _) := S
                    refine WL_nil ?_
                    refine T_n ?_
                    refine WP_ret ?_
                    replace S : St w M_33 (mks [] :: _) := S.empty
                    replace E : Env a 215 (([] : List Nat).map mk) _ := E
                    replace S := S.front2
                    replace S := S.front2
                    replace S := S.front2
                    exact F_retCG1 (cs := [.bool false, .int .i64 0, .slice none 0 0]) E S Tryz.results42 rfl (fun w => Tryz.isAgg42 w) (fun w => Tryz.sizeOf42 w) (fun w S => ⟨_, rfl, M_33, _, (hM_2.trans (hM_9.trans (hM_10.trans (hM_11.trans hM_33)))), ⟨_, _, _, _, ([] : List Int), rfl, rfl, (by exact RdS.nil _), (by (simp [hl]; done)), (by (rw [show (lsT t9).getD (regN sa) [] = x_5.2.2 from lsT_at hx_5, show (lsT t9).getD (regN sb) [] = x_7.2.2 from lsT_at hx_7]; (try simp only [lsT_set]); first | exact step23 (by assumption) (by assumption) (by assumption) | exact step25 (by assumption) (by assumption) (by assumption) (by assumption) | (simp [StepR, RG.w, regN, *]; done)))⟩, S.drop⟩)
                  · replace hc_32 := of_decide_eq_false hc_32
                    refine WP_seq ?_
                    refine WP_region ?_
                    refine S_v E rfl (R_eql E rfl rfl) rfl ?_
                    clear E a; intro a E
                    refine S_v E rfl (R_assign E rfl) rfl ?_
                    clear E a; intro a E
                    refine WL_nil ?_
                    refine T_n ?_
                    refine WP_cond E rfl (fun hc_35 => ?_) (fun hc_35 => ?_)
                    · replace hc_35 := of_decide_eq_true hc_35
                      refine WP_region ?_
                      refine S_v E rfl (R_move E rfl) rfl ?_
                      clear E a; intro a E
                      refine S_v E rfl (R_move E rfl) rfl ?_
                      clear E a; intro a E
                      refine S_v E rfl (R_move E rfl) rfl ?_
                      clear E a; intro a E
                      refine S_x (X_inv (p := [Regs KS x0 v1 t9]) E S rfl rfl rfl (reg_Difference hx_5 hx_7 (by exact hbt _ _ hx_5) (by exact hbt _ _ hx_7)) (Hp.le.refl _) ?_)
                      clear E a S; rintro a _ w M_36 _ hM_36 ⟨_, rfl, x_37, rfl, hx_37, rfl⟩ S E
                      replace S : St w M_36 (Regs KS x0 v1 t9 :: SetI KS x0 x_37 :: blk b_3 (.cells #[.bool false, .int .i64 0, .slice none 0 0] 42) :: H) := S
                      replace h2 := h2.le hM_36
                      replace hb_1 := hM_36.2 _ _ hb_1
                      refine S_v E rfl (R_nilCheck E rfl rfl) rfl ?_
                      clear E a; intro a E
                      replace S := S.front1
                      replace S := S.front1
                      refine S_x0 (X_storeR (x' := x_37) E S rfl rfl (Tryz.sizeOf55 _) hp_8 hkp_8 ?_)
                      clear E a S; rintro a w E S
                      refine WL_nil ?_
                      refine B_n ?_
                      refine T_n ?_
                      refine WP_seq ?_
                      refine WP_region ?_
                      refine S_v E rfl (R_loadGB (cs := [.bool false, .int .i64 0, .slice none 0 0]) E rfl (Tryz.isAgg42 _) (Tryz.sizeOf42 _) (S.mem (.tail _ (.head _)))) rfl ?_
                      clear E a; intro a E
                      replace S := S.front1
                      refine S_x0 (X_storeG (us := [.bool false, .int .i64 0, .slice none 0 0]) E S rfl rfl (Tryz.sizeOf42 _) rfl (by intro u hu; simp only [List.mem_cons, List.not_mem_nil, or_false] at hu; rcases hu with rfl | rfl | rfl <;> first | exact rfl | exact rfl | exact rfl) ?_)
                      clear E a S; rintro a w E S
                      replace S : St w M_36 (blk b_3 (.cells #[.bool false, .int .i64 0, .slice none 0 0] 42) :: _) := S
                      refine WL_nil ?_
                      refine T_n ?_
                      refine WP_ret ?_
                      replace S : St w M_36 (mks [] :: _) := S.empty
                      replace E : Env a 215 (([] : List Nat).map mk) _ := E
                      replace S := S.front2
                      replace S := S.front2
                      replace S := S.front2
                      exact F_retCG1 (cs := [.bool false, .int .i64 0, .slice none 0 0]) E S Tryz.results42 rfl (fun w => Tryz.isAgg42 w) (fun w => Tryz.sizeOf42 w) (fun w S => ⟨_, rfl, M_36, _, (hM_2.trans (hM_9.trans (hM_10.trans (hM_11.trans hM_36)))), ⟨_, _, _, _, ([] : List Int), rfl, rfl, (by exact RdS.nil _), (by (simp [hl]; done)), (by (rw [show (lsT t9).getD (regN sa) [] = x_5.2.2 from lsT_at hx_5, show (lsT t9).getD (regN sb) [] = x_7.2.2 from lsT_at hx_7]; (try simp only [lsT_set]); first | exact step23 (by assumption) (by assumption) (by assumption) | exact step25 (by assumption) (by assumption) (by assumption) (by assumption) | (simp [StepR, RG.w, regN, *]; done)))⟩, S.drop⟩)
                    · replace hc_35 := of_decide_eq_false hc_35
                      refine WP_seq ?_
                      refine WP_region ?_
                      refine S_v E rfl (R_eql E rfl rfl) rfl ?_
                      clear E a; intro a E
                      refine S_v E rfl (R_assign E rfl) rfl ?_
                      clear E a; intro a E
                      refine WL_nil ?_
                      refine T_n ?_
                      refine WP_cond E rfl (fun hc_38 => ?_) (fun hc_38 => ?_)
                      · replace hc_38 := of_decide_eq_true hc_38
                        refine WP_region ?_
                        refine S_v E rfl (R_move E rfl) rfl ?_
                        clear E a; intro a E
                        refine S_v E rfl (R_move E rfl) rfl ?_
                        clear E a; intro a E
                        refine S_v E rfl (R_move E rfl) rfl ?_
                        clear E a; intro a E
                        refine S_x (X_inv (p := [Regs KS x0 v1 t9]) E S rfl rfl rfl (reg_SymmetricDifference hx_5 hx_7 (by exact hbt _ _ hx_5) (by exact hbt _ _ hx_7)) (Hp.le.refl _) ?_)
                        clear E a S; rintro a _ w M_39 _ hM_39 ⟨_, rfl, x_40, rfl, hx_40, rfl⟩ S E
                        replace S : St w M_39 (Regs KS x0 v1 t9 :: SetI KS x0 x_40 :: blk b_3 (.cells #[.bool false, .int .i64 0, .slice none 0 0] 42) :: H) := S
                        replace h2 := h2.le hM_39
                        replace hb_1 := hM_39.2 _ _ hb_1
                        refine S_v E rfl (R_nilCheck E rfl rfl) rfl ?_
                        clear E a; intro a E
                        replace S := S.front1
                        replace S := S.front1
                        refine S_x0 (X_storeR (x' := x_40) E S rfl rfl (Tryz.sizeOf55 _) hp_8 hkp_8 ?_)
                        clear E a S; rintro a w E S
                        refine WL_nil ?_
                        refine B_n ?_
                        refine T_n ?_
                        refine WP_seq ?_
                        refine WP_region ?_
                        refine S_v E rfl (R_loadGB (cs := [.bool false, .int .i64 0, .slice none 0 0]) E rfl (Tryz.isAgg42 _) (Tryz.sizeOf42 _) (S.mem (.tail _ (.head _)))) rfl ?_
                        clear E a; intro a E
                        replace S := S.front1
                        refine S_x0 (X_storeG (us := [.bool false, .int .i64 0, .slice none 0 0]) E S rfl rfl (Tryz.sizeOf42 _) rfl (by intro u hu; simp only [List.mem_cons, List.not_mem_nil, or_false] at hu; rcases hu with rfl | rfl | rfl <;> first | exact rfl | exact rfl | exact rfl) ?_)
                        clear E a S; rintro a w E S
                        replace S : St w M_39 (blk b_3 (.cells #[.bool false, .int .i64 0, .slice none 0 0] 42) :: _) := S
                        refine WL_nil ?_
                        refine T_n ?_
                        refine WP_ret ?_
                        replace S : St w M_39 (mks [] :: _) := S.empty
                        replace E : Env a 215 (([] : List Nat).map mk) _ := E
                        replace S := S.front2
                        replace S := S.front2
                        replace S := S.front2
                        exact F_retCG1 (cs := [.bool false, .int .i64 0, .slice none 0 0]) E S Tryz.results42 rfl (fun w => Tryz.isAgg42 w) (fun w => Tryz.sizeOf42 w) (fun w S => ⟨_, rfl, M_39, _, (hM_2.trans (hM_9.trans (hM_10.trans (hM_11.trans hM_39)))), ⟨_, _, _, _, ([] : List Int), rfl, rfl, (by exact RdS.nil _), (by (simp [hl]; done)), (by (rw [show (lsT t9).getD (regN sa) [] = x_5.2.2 from lsT_at hx_5, show (lsT t9).getD (regN sb) [] = x_7.2.2 from lsT_at hx_7]; (try simp only [lsT_set]); first | exact step23 (by assumption) (by assumption) (by assumption) | exact step25 (by assumption) (by assumption) (by assumption) (by assumption) | (simp [StepR, RG.w, regN, *]; done)))⟩, S.drop⟩)
                      · replace hc_38 := of_decide_eq_false hc_38
                        refine WP_seq ?_
                        refine WP_region ?_
                        refine S_v E rfl (R_eql E rfl rfl) rfl ?_
                        clear E a; intro a E
                        refine S_v E rfl (R_assign E rfl) rfl ?_
                        clear E a; intro a E
                        refine WL_nil ?_
                        refine T_n ?_
                        refine WP_cond E rfl (fun hc_41 => ?_) (fun hc_41 => ?_)
                        · replace hc_41 := of_decide_eq_true hc_41
                          refine WP_region ?_
                          refine S_v E rfl (R_move E rfl) rfl ?_
                          clear E a; intro a E
                          refine S_v E rfl (R_move E rfl) rfl ?_
                          clear E a; intro a E
                          refine S_x (X_inv (p := [Regs KS x0 v1 t9]) E S rfl rfl rfl (reg_Equal hx_5 hx_7 (by exact hbt _ _ hx_5) (by exact hbt _ _ hx_7)) (Hp.le.refl _) ?_)
                          clear E a S; rintro a _ w M_42 _ hM_42 ⟨_, rfl, rfl, rfl⟩ S E
                          replace S : St w M_42 (Regs KS x0 v1 t9 :: blk b_3 (.cells #[.bool false, .int .i64 0, .slice none 0 0] 42) :: H) := S
                          replace h2 := h2.le hM_42
                          replace hb_1 := hM_42.2 _ _ hb_1
                          refine S_v E rfl (R_fieldAddr E rfl (FA42_0 _)) rfl ?_
                          clear E a; intro a E
                          replace S := S.front1
                          refine S_x0 (X_storeB (f := 0) E S rfl rfl (Tryz.sizeOf4 _) rfl rfl ?_)
                          clear E a S; rintro a w E S
                          replace S : St w M_42 (blk b_3 (.cells #[.bool (sub' x_5.2.2 x_7.2.2 && sub' x_7.2.2 x_5.2.2), .int .i64 0, .slice none 0 0] 42) :: _) := S
                          refine WL_nil ?_
                          refine B_n ?_
                          refine T_n ?_
                          refine WP_seq ?_
                          refine WP_region ?_
                          refine S_v E rfl (R_loadGB (cs := [.bool (sub' x_5.2.2 x_7.2.2 && sub' x_7.2.2 x_5.2.2), .int .i64 0, .slice none 0 0]) E rfl (Tryz.isAgg42 _) (Tryz.sizeOf42 _) (S.mem (.head _))) rfl ?_
                          clear E a; intro a E
                          refine S_x0 (X_storeG (us := [.bool (sub' x_5.2.2 x_7.2.2 && sub' x_7.2.2 x_5.2.2), .int .i64 0, .slice none 0 0]) E S rfl rfl (Tryz.sizeOf42 _) rfl (by intro u hu; simp only [List.mem_cons, List.not_mem_nil, or_false] at hu; rcases hu with rfl | rfl | rfl <;> first | exact rfl | exact rfl | exact rfl) ?_)
                          clear E a S; rintro a w E S
                          replace S : St w M_42 (blk b_3 (.cells #[.bool (sub' x_5.2.2 x_7.2.2 && sub' x_7.2.2 x_5.2.2), .int .i64 0, .slice none 0 0] 42) :: _) := S
                          refine WL_nil ?_
                          refine T_n ?_
                          refine WP_ret ?_
                          replace S : St w M_42 (mks [] :: _) := S.empty
                          replace E : Env a 215 (([] : List Nat).map mk) _ := E
                          replace S := S.front2
                          replace S := S.front2
                          replace S := S.front2
                          exact F_retCG1 (cs := [.bool (sub' x_5.2.2 x_7.2.2 && sub' x_7.2.2 x_5.2.2), .int .i64 0, .slice none 0 0]) E S Tryz.results42 rfl (fun w => Tryz.isAgg42 w) (fun w => Tryz.sizeOf42 w) (fun w S => ⟨_, rfl, M_42, _, (hM_2.trans (hM_9.trans (hM_10.trans (hM_11.trans hM_42)))), ⟨_, _, _, _, ([] : List Int), rfl, rfl, (by exact RdS.nil _), (by (simp [hl]; done)), (by (rw [show (lsT t9).getD (regN sa) [] = x_5.2.2 from lsT_at hx_5, show (lsT t9).getD (regN sb) [] = x_7.2.2 from lsT_at hx_7]; (try simp only [lsT_set]); first | exact step23 (by assumption) (by assumption) (by assumption) | exact step25 (by assumption) (by assumption) (by assumption) (by assumption) | (simp [StepR, RG.w, regN, *]; done)))⟩, S.drop⟩)
                        · replace hc_41 := of_decide_eq_false hc_41
                          refine WP_seq ?_
                          refine WP_region ?_
                          refine S_v E rfl (R_eql E rfl rfl) rfl ?_
                          clear E a; intro a E
                          refine S_v E rfl (R_assign E rfl) rfl ?_
                          clear E a; intro a E
                          refine WL_nil ?_
                          refine T_n ?_
                          refine WP_cond E rfl (fun hc_43 => ?_) (fun hc_43 => ?_)
                          · replace hc_43 := of_decide_eq_true hc_43
                            refine WP_region ?_
                            refine S_v E rfl (R_move E rfl) rfl ?_
                            clear E a; intro a E
                            refine S_v E rfl (R_move E rfl) rfl ?_
                            clear E a; intro a E
                            refine S_x (X_inv (p := [Regs KS x0 v1 t9]) E S rfl rfl rfl (reg_IsSubset hx_5 hx_7 (by exact hbt _ _ hx_5) (by exact hbt _ _ hx_7)) (Hp.le.refl _) ?_)
                            clear E a S; rintro a _ w M_44 _ hM_44 ⟨_, rfl, rfl, rfl⟩ S E
                            replace S : St w M_44 (Regs KS x0 v1 t9 :: blk b_3 (.cells #[.bool false, .int .i64 0, .slice none 0 0] 42) :: H) := S
                            replace h2 := h2.le hM_44
                            replace hb_1 := hM_44.2 _ _ hb_1
                            refine S_v E rfl (R_fieldAddr E rfl (FA42_0 _)) rfl ?_
                            clear E a; intro a E
                            replace S := S.front1
                            refine S_x0 (X_storeB (f := 0) E S rfl rfl (Tryz.sizeOf4 _) rfl rfl ?_)
                            clear E a S; rintro a w E S
                            replace S : St w M_44 (blk b_3 (.cells #[.bool (sub' x_5.2.2 x_7.2.2), .int .i64 0, .slice none 0 0] 42) :: _) := S
                            refine WL_nil ?_
                            refine B_n ?_
                            refine T_n ?_
                            refine WP_seq ?_
                            refine WP_region ?_
                            refine S_v E rfl (R_loadGB (cs := [.bool (sub' x_5.2.2 x_7.2.2), .int .i64 0, .slice none 0 0]) E rfl (Tryz.isAgg42 _) (Tryz.sizeOf42 _) (S.mem (.head _))) rfl ?_
                            clear E a; intro a E
                            refine S_x0 (X_storeG (us := [.bool (sub' x_5.2.2 x_7.2.2), .int .i64 0, .slice none 0 0]) E S rfl rfl (Tryz.sizeOf42 _) rfl (by intro u hu; simp only [List.mem_cons, List.not_mem_nil, or_false] at hu; rcases hu with rfl | rfl | rfl <;> first | exact rfl | exact rfl | exact rfl) ?_)
                            clear E a S; rintro a w E S
                            replace S : St w M_44 (blk b_3 (.cells #[.bool (sub' x_5.2.2 x_7.2.2), .int .i64 0, .slice none 0 0] 42) :: _) := S
                            refine WL_nil ?_
                            refine T_n ?_
                            refine WP_ret ?_
                            replace S : St w M_44 (mks [] :: _) := S.empty
                            replace E : Env a 215 (([] : List Nat).map mk) _ := E
                            replace S := S.front2
                            replace S := S.front2
                            replace S := S.front2
                            exact F_retCG1 (cs := [.bool (sub' x_5.2.2 x_7.2.2), .int .i64 0, .slice none 0 0]) E S Tryz.results42 rfl (fun w => Tryz.isAgg42 w) (fun w => Tryz.sizeOf42 w) (fun w S => ⟨_, rfl, M_44, _, (hM_2.trans (hM_9.trans (hM_10.trans (hM_11.trans hM_44)))), ⟨_, _, _, _, ([] : List Int), rfl, rfl, (by exact RdS.nil _), (by (simp [hl]; done)), (by (rw [show (lsT t9).getD (regN sa) [] = x_5.2.2 from lsT_at hx_5, show (lsT t9).getD (regN sb) [] = x_7.2.2 from lsT_at hx_7]; (try simp only [lsT_set]); first | exact step23 (by assumption) (by assumption) (by assumption) | exact step25 (by assumption) (by assumption) (by assumption) (by assumption) | (simp [StepR, RG.w, regN, *]; done)))⟩, S.drop⟩)
                          · replace hc_43 := of_decide_eq_false hc_43
                            refine WP_seq ?_
                            refine WP_region ?_
                            refine S_v E rfl (R_eql E rfl rfl) rfl ?_
                            clear E a; intro a E
                            refine S_v E rfl (R_assign E rfl) rfl ?_
                            clear E a; intro a E
                            refine WL_nil ?_
                            refine T_n ?_
                            refine WP_cond E rfl (fun hc_45 => ?_) (fun hc_45 => ?_)
                            · replace hc_45 := of_decide_eq_true hc_45
                              refine WP_region ?_
                              refine S_v E rfl (R_move E rfl) rfl ?_
                              clear E a; intro a E
                              refine S_v E rfl (R_move E rfl) rfl ?_
                              clear E a; intro a E
                              refine S_x (X_inv (p := [Regs KS x0 v1 t9]) E S rfl rfl rfl (reg_IsProperSubset hx_5 hx_7 (by exact hbt _ _ hx_5) (by exact hbt _ _ hx_7)) (Hp.le.refl _) ?_)
                              clear E a S; rintro a _ w M_46 _ hM_46 ⟨_, rfl, rfl, rfl⟩ S E
                              replace S : St w M_46 (Regs KS x0 v1 t9 :: blk b_3 (.cells #[.bool false, .int .i64 0, .slice none 0 0] 42) :: H) := S
                              replace h2 := h2.le hM_46
                              replace hb_1 := hM_46.2 _ _ hb_1
                              refine S_v E rfl (R_fieldAddr E rfl (FA42_0 _)) rfl ?_
                              clear E a; intro a E
                              replace S := S.front1
                              refine S_x0 (X_storeB (f := 0) E S rfl rfl (Tryz.sizeOf4 _) rfl rfl ?_)
                              clear E a S; rintro a w E S
                              replace S : St w M_46 (blk b_3 (.cells #[.bool ((decide (card x_5.2.2 < card x_7.2.2)) && sub' x_5.2.2 x_7.2.2), .int .i64 0, .slice none 0 0] 42) :: _) := S
                              refine WL_nil ?_
                              refine B_n ?_
                              refine T_n ?_
                              refine WP_seq ?_
                              refine WP_region ?_
                              refine S_v E rfl (R_loadGB (cs := [.bool ((decide (card x_5.2.2 < card x_7.2.2)) && sub' x_5.2.2 x_7.2.2), .int .i64 0, .slice none 0 0]) E rfl (Tryz.isAgg42 _) (Tryz.sizeOf42 _) (S.mem (.head _))) rfl ?_
                              clear E a; intro a E
                              refine S_x0 (X_storeG (us := [.bool ((decide (card x_5.2.2 < card x_7.2.2)) && sub' x_5.2.2 x_7.2.2), .int .i64 0, .slice none 0 0]) E S rfl rfl (Tryz.sizeOf42 _) rfl (by intro u hu; simp only [List.mem_cons, List.not_mem_nil, or_false] at hu; rcases hu with rfl | rfl | rfl <;> first | exact rfl | exact rfl | exact rfl) ?_)
                              clear E a S; rintro a w E S
                              replace S : St w M_46 (blk b_3 (.cells #[.bool ((decide (card x_5.2.2 < card x_7.2.2)) && sub' x_5.2.2 x_7.2.2), .int .i64 0, .slice none 0 0] 42) :: _) := S
                              refine WL_nil ?_
                              refine T_n ?_
                              refine WP_ret ?_
                              replace S : St w M_46 (mks [] :: _) := S.empty
                              replace E : Env a 215 (([] : List Nat).map mk) _ := E
                              replace S := S.front2
                              replace S := S.front2
                              replace S := S.front2
                              exact F_retCG1 (cs := [.bool ((decide (card x_5.2.2 < card x_7.2.2)) && sub' x_5.2.2 x_7.2.2), .int .i64 0, .slice none 0 0]) E S Tryz.results42 rfl (fun w => Tryz.isAgg42 w) (fun w => Tryz.sizeOf42 w) (fun w S => ⟨_, rfl, M_46, _, (hM_2.trans (hM_9.trans (hM_10.trans (hM_11.trans hM_46)))), ⟨_, _, _, _, ([] : List Int), rfl, rfl, (by exact RdS.nil _), (by (simp [hl]; done)), (by (rw [show (lsT t9).getD (regN sa) [] = x_5.2.2 from lsT_at hx_5, show (lsT t9).getD (regN sb) [] = x_7.2.2 from lsT_at hx_7]; (try simp only [lsT_set]); first | exact step23 (by assumption) (by assumption) (by assumption) | exact step25 (by assumption) (by assumption) (by assumption) (by assumption) | (simp [StepR, RG.w, regN, *]; done)))⟩, S.drop⟩)
                            · replace hc_45 := of_decide_eq_false hc_45
                              refine WP_seq ?_
                              refine WP_region ?_
                              refine S_v E rfl (R_eql E rfl rfl) rfl ?_
                              clear E a; intro a E
                              refine S_v E rfl (R_assign E rfl) rfl ?_
                              clear E a; intro a E
                              refine WL_nil ?_
                              refine T_n ?_
                              refine WP_cond E rfl (fun hc_47 => ?_) (fun hc_47 => ?_)
                              · replace hc_47 := of_decide_eq_true hc_47
                                refine WP_region ?_
                                refine S_v E rfl (R_move E rfl) rfl ?_
                                clear E a; intro a E
                                refine S_v E rfl (R_move E rfl) rfl ?_
                                clear E a; intro a E
                                refine S_x (X_inv (p := [Regs KS x0 v1 t9]) E S rfl rfl rfl (reg_IsSuperset hx_5 hx_7 (by exact hbt _ _ hx_5) (by exact hbt _ _ hx_7)) (Hp.le.refl _) ?_)
                                clear E a S; rintro a _ w M_48 _ hM_48 ⟨_, rfl, rfl, rfl⟩ S E
                                replace S : St w M_48 (Regs KS x0 v1 t9 :: blk b_3 (.cells #[.bool false, .int .i64 0, .slice none 0 0] 42) :: H) := S
                                replace h2 := h2.le hM_48
                                replace hb_1 := hM_48.2 _ _ hb_1
                                refine S_v E rfl (R_fieldAddr E rfl (FA42_0 _)) rfl ?_
                                clear E a; intro a E
                                replace S := S.front1
                                refine S_x0 (X_storeB (f := 0) E S rfl rfl (Tryz.sizeOf4 _) rfl rfl ?_)
                                clear E a S; rintro a w E S
                                replace S : St w M_48 (blk b_3 (.cells #[.bool (sub' x_7.2.2 x_5.2.2), .int .i64 0, .slice none 0 0] 42) :: _) := S
                                refine WL_nil ?_
                                refine B_n ?_
                                refine T_n ?_
                                refine WP_seq ?_
                                refine WP_region ?_
                                refine S_v E rfl (R_loadGB (cs := [.bool (sub' x_7.2.2 x_5.2.2), .int .i64 0, .slice none 0 0]) E rfl (Tryz.isAgg42 _) (Tryz.sizeOf42 _) (S.mem (.head _))) rfl ?_
                                clear E a; intro a E
                                refine S_x0 (X_storeG (us := [.bool (sub' x_7.2.2 x_5.2.2), .int .i64 0, .slice none 0 0]) E S rfl rfl (Tryz.sizeOf42 _) rfl (by intro u hu; simp only [List.mem_cons, List.not_mem_nil, or_false] at hu; rcases hu with rfl | rfl | rfl <;> first | exact rfl | exact rfl | exact rfl) ?_)
                                clear E a S; rintro a w E S
                                replace S : St w M_48 (blk b_3 (.cells #[.bool (sub' x_7.2.2 x_5.2.2), .int .i64 0, .slice none 0 0] 42) :: _) := S
                                refine WL_nil ?_
                                refine T_n ?_
                                refine WP_ret ?_
                                replace S : St w M_48 (mks [] :: _) := S.empty
                                replace E : Env a 215 (([] : List Nat).map mk) _ := E
                                replace S := S.front2
                                replace S := S.front2
                                replace S := S.front2
                                exact F_retCG1 (cs := [.bool (sub' x_7.2.2 x_5.2.2), .int .i64 0, .slice none 0 0]) E S Tryz.results42 rfl (fun w => Tryz.isAgg42 w) (fun w => Tryz.sizeOf42 w) (fun w S => ⟨_, rfl, M_48, _, (hM_2.trans (hM_9.trans (hM_10.trans (hM_11.trans hM_48)))), ⟨_, _, _, _, ([] : List Int), rfl, rfl, (by exact RdS.nil _), (by (simp [hl]; done)), (by (rw [show (lsT t9).getD (regN sa) [] = x_5.2.2 from lsT_at hx_5, show (lsT t9).getD (regN sb) [] = x_7.2.2 from lsT_at hx_7]; (try simp only [lsT_set]); first | exact step23 (by assumption) (by assumption) (by assumption) | exact step25 (by assumption) (by assumption) (by assumption) (by assumption) | (simp [StepR, RG.w, regN, *]; done)))⟩, S.drop⟩)
                              · replace hc_47 := of_decide_eq_false hc_47
                                refine WP_seq ?_
                                refine WP_region ?_
                                refine S_v E rfl (R_eql E rfl rfl) rfl ?_
                                clear E a; intro a E
                                refine S_v E rfl (R_assign E rfl) rfl ?_
                                clear E a; intro a E
                                refine WL_nil ?_
                                refine T_n ?_
                                refine WP_cond E rfl (fun hc_49 => ?_) (fun hc_49 => ?_)
                                · replace hc_49 := of_decide_eq_true hc_49
                                  refine WP_region ?_
                                  refine S_v E rfl (R_move E rfl) rfl ?_
                                  clear E a; intro a E
                                  refine S_v E rfl (R_move E rfl) rfl ?_
                                  clear E a; intro a E
                                  refine S_x (X_inv (p := [Regs KS x0 v1 t9]) E S rfl rfl rfl (reg_IsProperSuperset hx_5 hx_7 (by exact hbt _ _ hx_5) (by exact hbt _ _ hx_7)) (Hp.le.refl _) ?_)
                                  clear E a S; rintro a _ w M_50 _ hM_50 ⟨_, rfl, rfl, rfl⟩ S E
                                  replace S : St w M_50 (Regs KS x0 v1 t9 :: blk b_3 (.cells #[.bool false, .int .i64 0, .slice none 0 0] 42) :: H) := S
                                  replace h2 := h2.le hM_50
                                  replace hb_1 := hM_50.2 _ _ hb_1
                                  refine S_v E rfl (R_fieldAddr E rfl (FA42_0 _)) rfl ?_
                                  clear E a; intro a E
                                  replace S := S.front1
                                  refine S_x0 (X_storeB (f := 0) E S rfl rfl (Tryz.sizeOf4 _) rfl rfl ?_)
                                  clear E a S; rintro a w E S
                                  replace S : St w M_50 (blk b_3 (.cells #[.bool ((decide (card x_7.2.2 < card x_5.2.2)) && sub' x_7.2.2 x_5.2.2), .int .i64 0, .slice none 0 0] 42) :: _) := S
                                  refine WL_nil ?_
                                  refine B_n ?_
                                  refine T_n ?_
                                  refine WP_seq ?_
                                  refine WP_region ?_
                                  refine S_v E rfl (R_loadGB (cs := [.bool ((decide (card x_7.2.2 < card x_5.2.2)) && sub' x_7.2.2 x_5.2.2), .int .i64 0, .slice none 0 0]) E rfl (Tryz.isAgg42 _) (Tryz.sizeOf42 _) (S.mem (.head _))) rfl ?_
                                  clear E a; intro a E
                                  refine S_x0 (X_storeG (us := [.bool ((decide (card x_7.2.2 < card x_5.2.2)) && sub' x_7.2.2 x_5.2.2), .int .i64 0, .slice none 0 0]) E S rfl rfl (Tryz.sizeOf42 _) rfl (by intro u hu; simp only [List.mem_cons, List.not_mem_nil, or_false] at hu; rcases hu with rfl | rfl | rfl <;> first | exact rfl | exact rfl | exact rfl) ?_)
                                  clear E a S; rintro a w E S
                                  replace S : St w M_50 (blk b_3 (.cells #[.bool ((decide (card x_7.2.2 < card x_5.2.2)) && sub' x_7.2.2 x_5.2.2), .int .i64 0, .slice none 0 0] 42) :: _) := S
                                  refine WL_nil ?_
                                  refine T_n ?_
                                  refine WP_ret ?_
                                  replace S : St w M_50 (mks [] :: _) := S.empty
                                  replace E : Env a 215 (([] : List Nat).map mk) _ := E
                                  replace S := S.front2
                                  replace S := S.front2
                                  replace S := S.front2
                                  exact F_retCG1 (cs := [.bool ((decide (card x_7.2.2 < card x_5.2.2)) && sub' x_7.2.2 x_5.2.2), .int .i64 0, .slice none 0 0]) E S Tryz.results42 rfl (fun w => Tryz.isAgg42 w) (fun w => Tryz.sizeOf42 w) (fun w S => ⟨_, rfl, M_50, _, (hM_2.trans (hM_9.trans (hM_10.trans (hM_11.trans hM_50)))), ⟨_, _, _, _, ([] : List Int), rfl, rfl, (by exact RdS.nil _), (by (simp [hl]; done)), (by (rw [show (lsT t9).getD (regN sa) [] = x_5.2.2 from lsT_at hx_5, show (lsT t9).getD (regN sb) [] = x_7.2.2 from lsT_at hx_7]; (try simp only [lsT_set]); first | exact step23 (by assumption) (by assumption) (by assumption) | exact step25 (by assumption) (by assumption) (by assumption) (by assumption) | (simp [StepR, RG.w, regN, *]; done)))⟩, S.drop⟩)
                                · replace hc_49 := of_decide_eq_false hc_49
                                  refine WP_seq ?_
                                  refine WP_region ?_
                                  refine S_v E rfl (R_eql E rfl rfl) rfl ?_
                                  clear E a; intro a E
                                  refine S_v E rfl (R_assign E rfl) rfl ?_
                                  clear E a; intro a E
                                  refine WL_nil ?_
                                  refine T_n ?_
                                  refine WP_cond E rfl (fun hc_51 => ?_) (fun hc_51 => ?_)
                                  · replace hc_51 := of_decide_eq_true hc_51
                                    refine WP_region ?_
                                    refine S_v E rfl (R_move E rfl) rfl ?_
                                    clear E a; intro a E
                                    refine S_v E rfl (R_move E rfl) rfl ?_
                                    clear E a; intro a E
                                    refine S_x (X_inv (p := [Regs KS x0 v1 t9]) E S rfl rfl rfl (reg_ContainsAnyElement hx_5 hx_7 (by exact hbt _ _ hx_5) (by exact hbt _ _ hx_7)) (Hp.le.refl _) ?_)
                                    clear E a S; rintro a _ w M_52 _ hM_52 ⟨_, rfl, rfl, rfl⟩ S E
                                    replace S : St w M_52 (Regs KS x0 v1 t9 :: blk b_3 (.cells #[.bool false, .int .i64 0, .slice none 0 0] 42) :: H) := S
                                    replace h2 := h2.le hM_52
                                    replace hb_1 := hM_52.2 _ _ hb_1
                                    refine S_v E rfl (R_fieldAddr E rfl (FA42_0 _)) rfl ?_
                                    clear E a; intro a E
                                    replace S := S.front1
                                    refine S_x0 (X_storeB (f := 0) E S rfl rfl (Tryz.sizeOf4 _) rfl rfl ?_)
                                    clear E a S; rintro a w E S
                                    replace S : St w M_52 (blk b_3 (.cells #[.bool (any' x_5.2.2 x_7.2.2), .int .i64 0, .slice none 0 0] 42) :: _) := S
                                    refine WL_nil ?_
                                    refine B_n ?_
                                    refine T_n ?_
                                    refine WP_seq ?_
                                    refine WP_region ?_
                                    refine S_v E rfl (R_loadGB (cs := [.bool (any' x_5.2.2 x_7.2.2), .int .i64 0, .slice none 0 0]) E rfl (Tryz.isAgg42 _) (Tryz.sizeOf42 _) (S.mem (.head _))) rfl ?_
                                    clear E a; intro a E
                                    refine S_x0 (X_storeG (us := [.bool (any' x_5.2.2 x_7.2.2), .int .i64 0, .slice none 0 0]) E S rfl rfl (Tryz.sizeOf42 _) rfl (by intro u hu; simp only [List.mem_cons, List.not_mem_nil, or_false] at hu; rcases hu with rfl | rfl | rfl <;> first | exact rfl | exact rfl | exact rfl) ?_)
                                    clear E a S; rintro a w E S
                                    replace S : St w M_52 (blk b_3 (.cells #[.bool (any' x_5.2.2 x_7.2.2), .int .i64 0, .slice none 0 0] 42) :: _) := S
                                    refine WL_nil ?_
                                    refine T_n ?_
                                    refine WP_ret ?_
                                    replace S : St w M_52 (mks [] :: _) := S.empty
                                    replace E : Env a 215 (([] : List Nat).map mk) _ := E
                                    replace S := S.front2
                                    replace S := S.front2
                                    replace S := S.front2
                                    exact F_retCG1 (cs := [.bool (any' x_5.2.2 x_7.2.2), .int .i64 0, .slice none 0 0]) E S Tryz.results42 rfl (fun w => Tryz.isAgg42 w) (fun w => Tryz.sizeOf42 w) (fun w S => ⟨_, rfl, M_52, _, (hM_2.trans (hM_9.trans (hM_10.trans (hM_11.trans hM_52)))), ⟨_, _, _, _, ([] : List Int), rfl, rfl, (by exact RdS.nil _), (by (simp [hl]; done)), (by (rw [show (lsT t9).getD (regN sa) [] = x_5.2.2 from lsT_at hx_5, show (lsT t9).getD (regN sb) [] = x_7.2.2 from lsT_at hx_7]; (try simp only [lsT_set]); first | exact step23 (by assumption) (by assumption) (by assumption) | exact step25 (by assumption) (by assumption) (by assumption) (by assumption) | (simp [StepR, RG.w, regN, *]; done)))⟩, S.drop⟩)
                                  · replace hc_51 := of_decide_eq_false hc_51
                                    refine WP_seq ?_
                                    refine WP_region ?_
                                    refine S_v E rfl (R_eql E rfl rfl) rfl ?_
                                    clear E a; intro a E
                                    refine S_v E rfl (R_assign E rfl) rfl ?_
                                    clear E a; intro a E
                                    refine WL_nil ?_
                                    refine T_n ?_
                                    refine WP_cond E rfl (fun hc_53 => ?_) (fun hc_53 => ?_)
                                    · replace hc_53 := of_decide_eq_true hc_53
                                      refine WP_region ?_
                                      refine S_v E rfl (R_move E rfl) rfl ?_
                                      clear E a; intro a E
                                      refine S_v E rfl (R_fieldAddr E rfl (FA40_5 _)) rfl ?_
                                      clear E a; intro a E
                                      refine S_v E rfl (R_loadM E rfl Tryz.isAgg22 S.imm (cellM_boxo hb_1 rfl)) rfl ?_
                                      clear E a; intro a E
                                      refine S_x (X_inv (p := [Regs KS x0 v1 t9]) E S rfl rfl rfl (reg_Contains hx_5 h2 (by exact hbt _ _ hx_5)) (Hp.le.refl _) ?_)
                                      clear E a S; rintro a _ w M_54 _ hM_54 ⟨_, rfl, rfl, rfl⟩ S E
                                      replace S : St w M_54 (Regs KS x0 v1 t9 :: blk b_3 (.cells #[.bool false, .int .i64 0, .slice none 0 0] 42) :: H) := S
                                      replace h2 := h2.le hM_54
                                      replace hb_1 := hM_54.2 _ _ hb_1
                                      refine S_v E rfl (R_fieldAddr E rfl (FA42_0 _)) rfl ?_
                                      clear E a; intro a E
                                      replace S := S.front1
                                      refine S_x0 (X_storeB (f := 0) E S rfl rfl (Tryz.sizeOf4 _) rfl rfl ?_)
                                      clear E a S; rintro a w E S
                                      replace S : St w M_54 (blk b_3 (.cells #[.bool (sub' l2 x_5.2.2), .int .i64 0, .slice none 0 0] 42) :: _) := S
                                      refine WL_nil ?_
                                      refine B_n ?_
                                      refine T_n ?_
                                      refine WP_seq ?_
                                      refine WP_region ?_
                                      refine S_v E rfl (R_loadGB (cs := [.bool (sub' l2 x_5.2.2), .int .i64 0, .slice none 0 0]) E rfl (Tryz.isAgg42 _) (Tryz.sizeOf42 _) (S.mem (.head _))) rfl ?_
                                      clear E a; intro a E
                                      refine S_x0 (X_storeG (us := [.bool (sub' l2 x_5.2.2), .int .i64 0, .slice none 0 0]) E S rfl rfl (Tryz.sizeOf42 _) rfl (by intro u hu; simp only [List.mem_cons, List.not_mem_nil, or_false] at hu; rcases hu with rfl | rfl | rfl <;> first | exact rfl | exact rfl | exact rfl) ?_)
                                      clear E a S; rintro a w E S
                                      replace S : St w M_54 (blk b_3 (.cells #[.bool (sub' l2 x_5.2.2), .int .i64 0, .slice none 0 0] 42) :: _) := S
                                      refine WL_nil ?_
                                      refine T_n ?_
                                      refine WP_ret ?_
                                      replace S : St w M_54 (mks [] :: _) := S.empty
                                      replace E : Env a 215 (([] : List Nat).map mk) _ := E
                                      replace S := S.front2
                                      replace S := S.front2
                                      replace S := S.front2
                                      exact F_retCG1 (cs := [.bool (sub' l2 x_5.2.2), .int .i64 0, .slice none 0 0]) E S Tryz.results42 rfl (fun w => Tryz.isAgg42 w) (fun w => Tryz.sizeOf42 w) (fun w S => ⟨_, rfl, M_54, _, (hM_2.trans (hM_9.trans (hM_10.trans (hM_11.trans hM_54)))), ⟨_, _, _, _, ([] : List Int), rfl, rfl, (by exact RdS.nil _), (by (simp [hl]; done)), (by (rw [show (lsT t9).getD (regN sa) [] = x_5.2.2 from lsT_at hx_5, show (lsT t9).getD (regN sb) [] = x_7.2.2 from lsT_at hx_7]; (try simp only [lsT_set]); first | exact step23 (by assumption) (by assumption) (by assumption) | exact step25 (by assumption) (by assumption) (by assumption) (by assumption) | (simp [StepR, RG.w, regN, *]; done)))⟩, S.drop⟩)
                                    · replace hc_53 := of_decide_eq_false hc_53
                                      refine WP_seq ?_
                                      refine WP_region ?_
                                      refine S_v E rfl (R_eql E rfl rfl) rfl ?_
                                      clear E a; intro a E
                                      refine S_v E rfl (R_assign E rfl) rfl ?_
                                      clear E a; intro a E
                                      refine WL_nil ?_
                                      refine T_n ?_
                                      refine WP_cond E rfl (fun hc_55 => ?_) (fun hc_55 => ?_)
                                      · replace hc_55 := of_decide_eq_true hc_55
                                        refine WP_region ?_
                                        refine S_v E rfl (R_move E rfl) rfl ?_
                                        clear E a; intro a E
                                        refine S_v E rfl (R_fieldAddr E rfl (FA40_5 _)) rfl ?_
                                        clear E a; intro a E
                                        refine S_v E rfl (R_loadM E rfl Tryz.isAgg22 S.imm (cellM_boxo hb_1 rfl)) rfl ?_
                                        clear E a; intro a E
                                        refine S_x (X_inv (p := [Regs KS x0 v1 t9]) E S rfl rfl rfl (reg_ContainsAny hx_5 h2 (by exact hbt _ _ hx_5)) (Hp.le.refl _) ?_)
                                        clear E a S; rintro a _ w M_56 _ hM_56 ⟨_, rfl, rfl, rfl⟩ S E
                                        replace S : St w M_56 (Regs KS x0 v1 t9 :: blk b_3 (.cells #[.bool false, .int .i64 0, .slice none 0 0] 42) :: H) := S
                                        replace h2 := h2.le hM_56
                                        replace hb_1 := hM_56.2 _ _ hb_1
                                        refine S_v E rfl (R_fieldAddr E rfl (FA42_0 _)) rfl ?_
                                        clear E a; intro a E
                                        replace S := S.front1
                                        refine S_x0 (X_storeB (f := 0) E S rfl rfl (Tryz.sizeOf4 _) rfl rfl ?_)
                                        clear E a S; rintro a w E S
                                        replace S : St w M_56 (blk b_3 (.cells #[.bool (any' l2 x_5.2.2), .int .i64 0, .slice none 0 0] 42) :: _) := S
                                        refine WL_nil ?_
                                        refine B_n ?_
                                        refine T_n ?_
                                        refine WP_seq ?_
                                        refine WP_region ?_
                                        refine S_v E rfl (R_loadGB (cs := [.bool (any' l2 x_5.2.2), .int .i64 0, .slice none 0 0]) E rfl (Tryz.isAgg42 _) (Tryz.sizeOf42 _) (S.mem (.head _))) rfl ?_
                                        clear E a; intro a E
                                        refine S_x0 (X_storeG (us := [.bool (any' l2 x_5.2.2), .int .i64 0, .slice none 0 0]) E S rfl rfl (Tryz.sizeOf42 _) rfl (by intro u hu; simp only [List.mem_cons, List.not_mem_nil, or_false] at hu; rcases hu with rfl | rfl | rfl <;> first | exact rfl | exact rfl | exact rfl) ?_)
                                        clear E a S; rintro a w E S
                                        replace S : St w M_56 (blk b_3 (.cells #[.bool (any' l2 x_5.2.2), .int .i64 0, .slice none 0 0] 42) :: _) := S
                                        refine WL_nil ?_
                                        refine T_n ?_
                                        refine WP_ret ?_
                                        replace S : St w M_56 (mks [] :: _) := S.empty
                                        replace E : Env a 215 (([] : List Nat).map mk) _ := E
                                        replace S := S.front2
                                        replace S := S.front2
                                        replace S := S.front2
                                        exact F_retCG1 (cs := [.bool (any' l2 x_5.2.2), .int .i64 0, .slice none 0 0]) E S Tryz.results42 rfl (fun w => Tryz.isAgg42 w) (fun w => Tryz.sizeOf42 w) (fun w S => ⟨_, rfl, M_56, _, (hM_2.trans (hM_9.trans (hM_10.trans (hM_11.trans hM_56)))), ⟨_, _, _, _, ([] : List Int), rfl, rfl, (by exact RdS.nil _), (by (simp [hl]; done)), (by (rw [show (lsT t9).getD (regN sa) [] = x_5.2.2 from lsT_at hx_5, show (lsT t9).getD (regN sb) [] = x_7.2.2 from lsT_at hx_7]; (try simp only [lsT_set]); first | exact step23 (by assumption) (by assumption) (by assumption) | exact step25 (by assumption) (by assumption) (by assumption) (by assumption) | (simp [StepR, RG.w, regN, *]; done)))⟩, S.drop⟩)
                                      · replace hc_55 := of_decide_eq_false hc_55
                                        refine WP_seq ?_
                                        refine WP_region ?_
                                        refine S_v E rfl (R_eql E rfl rfl) rfl ?_
                                        clear E a; intro a E
                                        refine S_v E rfl (R_assign E rfl) rfl ?_
                                        clear E a; intro a E
                                        refine WL_nil ?_
                                        refine T_n ?_
                                        refine WP_cond E rfl (fun hc_57 => ?_) (fun hc_57 => ?_)
                                        · replace hc_57 := of_decide_eq_true hc_57
                                          refine WP_region ?_
                                          refine S_v E rfl (R_move E rfl) rfl ?_
                                          clear E a; intro a E
                                          refine S_v E rfl (R_fieldAddr E rfl (FA40_4 _)) rfl ?_
                                          clear E a; intro a E
                                          refine S_v E rfl (R_loadM E rfl Tryz.isAgg3 S.imm (cellM_boxo hb_1 rfl)) rfl ?_
                                          clear E a; intro a E
                                          refine S_x (X_inv (p := [Regs KS x0 v1 t9]) E S rfl rfl rfl (reg_ContainsOne hx_5 (by exact hbt _ _ hx_5)) (Hp.le.refl _) ?_)
                                          clear E a S; rintro a _ w M_58 _ hM_58 ⟨_, rfl, rfl, rfl⟩ S E
                                          replace S : St w M_58 (Regs KS x0 v1 t9 :: blk b_3 (.cells #[.bool false, .int .i64 0, .slice none 0 0] 42) :: H) := S
                                          replace h2 := h2.le hM_58
                                          replace hb_1 := hM_58.2 _ _ hb_1
                                          refine S_v E rfl (R_fieldAddr E rfl (FA42_0 _)) rfl ?_
                                          clear E a; intro a E
                                          replace S := S.front1
                                          refine S_x0 (X_storeB (f := 0) E S rfl rfl (Tryz.sizeOf4 _) rfl rfl ?_)
                                          clear E a S; rintro a w E S
                                          replace S : St w M_58 (blk b_3 (.cells #[.bool (decide (sx ∈ x_5.2.2)), .int .i64 0, .slice none 0 0] 42) :: _) := S
                                          refine WL_nil ?_
                                          refine B_n ?_
                                          refine T_n ?_
                                          refine WP_seq ?_
                                          refine WP_region ?_
                                          refine S_v E rfl (R_loadGB (cs := [.bool (decide (sx ∈ x_5.2.2)), .int .i64 0, .slice none 0 0]) E rfl (Tryz.isAgg42 _) (Tryz.sizeOf42 _) (S.mem (.head _))) rfl ?_
                                          clear E a; intro a E
                                          refine S_x0 (X_storeG (us := [.bool (decide (sx ∈ x_5.2.2)), .int .i64 0, .slice none 0 0]) E S rfl rfl (Tryz.sizeOf42 _) rfl (by intro u hu; simp only [List.mem_cons, List.not_mem_nil, or_false] at hu; rcases hu with rfl | rfl | rfl <;> first | exact rfl | exact rfl | exact rfl) ?_)
                                          clear E a S; rintro a w E S
                                          replace S : St w M_58 (blk b_3 (.cells #[.bool (decide (sx ∈ x_5.2.2)), .int .i64 0, .slice none 0 0] 42) :: _) := S
                                          refine WL_nil ?_
                                          refine T_n ?_
                                          refine WP_ret ?_
                                          replace S : St w M_58 (mks [] :: _) := S.empty
                                          replace E : Env a 215 (([] : List Nat).map mk) _ := E
                                          replace S := S.front2
                                          replace S := S.front2
                                          replace S := S.front2
                                          exact F_retCG1 (cs := [.bool (decide (sx ∈ x_5.2.2)), .int .i64 0, .slice none 0 0]) E S Tryz.results42 rfl (fun w => Tryz.isAgg42 w) (fun w => Tryz.sizeOf42 w) (fun w S => ⟨_, rfl, M_58, _, (hM_2.trans (hM_9.trans (hM_10.trans (hM_11.trans hM_58)))), ⟨_, _, _, _, ([] : List Int), rfl, rfl, (by exact RdS.nil _), (by (simp [hl]; done)), (by (rw [show (lsT t9).getD (regN sa) [] = x_5.2.2 from lsT_at hx_5, show (lsT t9).getD (regN sb) [] = x_7.2.2 from lsT_at hx_7]; (try simp only [lsT_set]); first | exact step23 (by assumption) (by assumption) (by assumption) | exact step25 (by assumption) (by assumption) (by assumption) (by assumption) | (simp [StepR, RG.w, regN, *]; done)))⟩, S.drop⟩)
                                        · replace hc_57 := of_decide_eq_false hc_57
                                          refine WP_seq ?_
                                          refine WP_region ?_
                                          refine S_v E rfl (R_eql E rfl rfl) rfl ?_
                                          clear E a; intro a E
                                          refine S_v E rfl (R_assign E rfl) rfl ?_
                                          clear E a; intro a E
                                          refine WL_nil ?_
                                          refine T_n ?_
                                          refine WP_cond E rfl (fun hc_59 => ?_) (fun hc_59 => ?_)
                                          · replace hc_59 := of_decide_eq_true hc_59
                                            refine WP_region ?_
                                            refine S_v E rfl (R_move E rfl) rfl ?_
                                            clear E a; intro a E
                                            refine S_x (X_inv (p := [Regs KS x0 v1 t9]) E S rfl rfl rfl (reg_Cardinality hx_5 (by exact hbt _ _ hx_5)) (Hp.le.refl _) ?_)
                                            clear E a S; rintro a _ w M_60 _ hM_60 ⟨_, rfl, rfl, rfl⟩ S E
                                            replace S : St w M_60 (Regs KS x0 v1 t9 :: blk b_3 (.cells #[.bool false, .int .i64 0, .slice none 0 0] 42) :: H) := S
                                            replace h2 := h2.le hM_60
                                            replace hb_1 := hM_60.2 _ _ hb_1
                                            refine S_v E rfl (R_fieldAddr E rfl (FA42_1 _)) rfl ?_
                                            clear E a; intro a E
                                            replace S := S.front1
                                            refine S_x0 (X_storeB (f := 1) E S rfl rfl (Tryz.sizeOf3 _) rfl rfl ?_)
                                            clear E a S; rintro a w E S
                                            replace S : St w M_60 (blk b_3 (.cells #[.bool false, .int .i64 ((card x_5.2.2 : Nat) : Int), .slice none 0 0] 42) :: _) := S
                                            refine WL_nil ?_
                                            refine B_n ?_
                                            refine T_n ?_
                                            refine WP_seq ?_
                                            refine WP_region ?_
                                            refine S_v E rfl (R_loadGB (cs := [.bool false, .int .i64 ((card x_5.2.2 : Nat) : Int), .slice none 0 0]) E rfl (Tryz.isAgg42 _) (Tryz.sizeOf42 _) (S.mem (.head _))) rfl ?_
                                            clear E a; intro a E
                                            refine S_x0 (X_storeG (us := [.bool false, .int .i64 ((card x_5.2.2 : Nat) : Int), .slice none 0 0]) E S rfl rfl (Tryz.sizeOf42 _) rfl (by intro u hu; simp only [List.mem_cons, List.not_mem_nil, or_false] at hu; rcases hu with rfl | rfl | rfl <;> first | exact rfl | exact rfl | exact rfl) ?_)
                                            clear E a S; rintro a w E S
                                            replace S : St w M_60 (blk b_3 (.cells #[.bool false, .int .i64 ((card x_5.2.2 : Nat) : Int), .slice none 0 0] 42) :: _) := S
                                            refine WL_nil ?_
                                            refine T_n ?_
                                            refine WP_ret ?_
                                            replace S : St w M_60 (mks [] :: _) := S.empty
                                            replace E : Env a 215 (([] : List Nat).map mk) _ := E
                                            replace S := S.front2
                                            replace S := S.front2
                                            replace S := S.front2
                                            exact F_retCG1 (cs := [.bool false, .int .i64 ((card x_5.2.2 : Nat) : Int), .slice none 0 0]) E S Tryz.results42 rfl (fun w => Tryz.isAgg42 w) (fun w => Tryz.sizeOf42 w) (fun w S => ⟨_, rfl, M_60, _, (hM_2.trans (hM_9.trans (hM_10.trans (hM_11.trans hM_60)))), ⟨_, _, _, _, ([] : List Int), rfl, rfl, (by exact RdS.nil _), (by (simp [hl]; done)), (by (rw [show (lsT t9).getD (regN sa) [] = x_5.2.2 from lsT_at hx_5, show (lsT t9).getD (regN sb) [] = x_7.2.2 from lsT_at hx_7]; (try simp only [lsT_set]); first | exact step23 (by assumption) (by assumption) (by assumption) | exact step25 (by assumption) (by assumption) (by assumption) (by assumption) | (simp [StepR, RG.w, regN, *]; done)))⟩, S.drop⟩)
                                          · replace hc_59 := of_decide_eq_false hc_59
                                            refine WP_seq ?_
                                            refine WP_region ?_
                                            refine S_v E rfl (R_eql E rfl rfl) rfl ?_
                                            clear E a; intro a E
                                            refine S_v E rfl (R_assign E rfl) rfl ?_
                                            clear E a; intro a E
                                            refine WL_nil ?_
                                            refine T_n ?_
                                            refine WP_cond E rfl (fun hc_61 => ?_) (fun hc_61 => ?_)
                                            · replace hc_61 := of_decide_eq_true hc_61
                                              refine WP_region ?_
                                              refine S_v E rfl (R_move E rfl) rfl ?_
                                              clear E a; intro a E
                                              refine S_x (X_inv (p := [Regs KS x0 v1 t9]) E S rfl rfl rfl (reg_IsEmpty hx_5 (by exact hbt _ _ hx_5)) (Hp.le.refl _) ?_)
                                              clear E a S; rintro a _ w M_62 _ hM_62 ⟨_, rfl, rfl, rfl⟩ S E
                                              replace S : St w M_62 (Regs KS x0 v1 t9 :: blk b_3 (.cells #[.bool false, .int .i64 0, .slice none 0 0] 42) :: H) := S
                                              replace h2 := h2.le hM_62
                                              replace hb_1 := hM_62.2 _ _ hb_1
                                              refine S_v E rfl (R_fieldAddr E rfl (FA42_0 _)) rfl ?_
                                              clear E a; intro a E
                                              replace S := S.front1
                                              refine S_x0 (X_storeB (f := 0) E S rfl rfl (Tryz.sizeOf4 _) rfl rfl ?_)
                                              clear E a S; rintro a w E S
                                              replace S : St w M_62 (blk b_3 (.cells #[.bool (decide (((card x_5.2.2 : Nat) : Int) = 0)), .int .i64 0, .slice none 0 0] 42) :: _) := S
                                              refine WL_nil ?_
                                              refine B_n ?_
                                              refine T_n ?_
                                              refine WP_seq ?_
                                              refine WP_region ?_
                                              refine S_v E rfl (R_loadGB (cs := [.bool (decide (((card x_5.2.2 : Nat) : Int) = 0)), .int .i64 0, .slice none 0 0]) E rfl (Tryz.isAgg42 _) (Tryz.sizeOf42 _) (S.mem (.head _))) rfl ?_
                                              clear E a; intro a E
                                              refine S_x0 (X_storeG (us := [.bool (decide (((card x_5.2.2 : Nat) : Int) = 0)), .int .i64 0, .slice none 0 0]) E S rfl rfl (Tryz.sizeOf42 _) rfl (by intro u hu; simp only [List.mem_cons, List.not_mem_nil, or_false] at hu; rcases hu with rfl | rfl | rfl <;> first | exact rfl | exact rfl | exact rfl) ?_)
                                              clear E a S; rintro a w E S
                                              replace S : St w M_62 (blk b_3 (.cells #[.bool (decide (((card x_5.2.2 : Nat) : Int) = 0)), .int .i64 0, .slice none 0 0] 42) :: _) := S
                                              refine WL_nil ?_
                                              refine T_n ?_
                                              refine WP_ret ?_
                                              replace S : St w M_62 (mks [] :: _) := S.empty
                                              replace E : Env a 215 (([] : List Nat).map mk) _ := E
                                              replace S := S.front2
                                              replace S := S.front2
                                              replace S := S.front2
                                              exact F_retCG1 (cs := [.bool (decide (((card x_5.2.2 : Nat) : Int) = 0)), .int .i64 0, .slice none 0 0]) E S Tryz.results42 rfl (fun w => Tryz.isAgg42 w) (fun w => Tryz.sizeOf42 w) (fun w S => ⟨_, rfl, M_62, _, (hM_2.trans (hM_9.trans (hM_10.trans (hM_11.trans hM_62)))), ⟨_, _, _, _, ([] : List Int), rfl, rfl, (by exact RdS.nil _), (by (simp [hl]; done)), (by (rw [show (lsT t9).getD (regN sa) [] = x_5.2.2 from lsT_at hx_5, show (lsT t9).getD (regN sb) [] = x_7.2.2 from lsT_at hx_7]; (try simp only [lsT_set]); first | exact step23 (by assumption) (by assumption) (by assumption) | exact step25 (by assumption) (by assumption) (by assumption) (by assumption) | (simp [StepR, RG.w, regN, *]; done)))⟩, S.drop⟩)
                                            · replace hc_61 := of_decide_eq_false hc_61
                                              refine WP_seq ?_
                                              refine WP_region ?_
                                              refine S_v E rfl (R_eql E rfl rfl) rfl ?_
                                              clear E a; intro a E
                                              refine S_v E rfl (R_assign E rfl) rfl ?_
                                              clear E a; intro a E
                                              refine WL_nil ?_
                                              refine T_n ?_
                                              refine WP_cond E rfl (fun hc_63 => ?_) (fun hc_63 => ?_)
                                              · replace hc_63 := of_decide_eq_true hc_63
                                                refine WP_region ?_
                                                refine S_v E rfl (R_move E rfl) rfl ?_
                                                clear E a; intro a E
                                                refine S_x (X_sp (p := [Regs KS x0 v1 t9]) E S rfl rfl rfl (R_Sorted hx_5 (by first | assumption | omega)) (Hp.le.refl _) ?_)
                                                clear E a S; rintro a u_65 w M_64 _ hM_64 ⟨_, rfl, rfl, hx_66⟩ S E
                                                replace S : St w M_64 (Regs KS x0 v1 t9 :: blk b_3 (.cells #[.bool false, .int .i64 0, .slice none 0 0] 42) :: H) := S
                                                replace h2 := h2.le hM_64
                                                replace hb_1 := hM_64.2 _ _ hb_1
                                                refine S_v E rfl (R_fieldAddr E rfl (FA42_2 _)) rfl ?_
                                                clear E a; intro a E
                                                replace S := S.front1
                                                refine S_x0 (X_storeB (f := 2) E S rfl rfl (Tryz.sizeOf22 _) (RdS.one' hx_66) rfl ?_)
                                                clear E a S; rintro a w E S
                                                replace S : St w M_64 (blk b_3 (.cells #[.bool false, .int .i64 0, u_65] 42) :: _) := S
                                                refine WL_nil ?_
                                                refine B_n ?_
                                                refine T_n ?_
                                                refine WP_seq ?_
                                                refine WP_region ?_
                                                refine S_v E rfl (R_loadGB (cs := [.bool false, .int .i64 0, u_65]) E rfl (Tryz.isAgg42 _) (Tryz.sizeOf42 _) (S.mem (.head _))) rfl ?_
                                                clear E a; intro a E
                                                refine S_x0 (X_storeG (us := [.bool false, .int .i64 0, u_65]) E S rfl rfl (Tryz.sizeOf42 _) rfl (by intro u hu; simp only [List.mem_cons, List.not_mem_nil, or_false] at hu; rcases hu with rfl | rfl | rfl <;> first | exact rfl | exact rfl | exact (RdS.one' hx_66)) ?_)
                                                clear E a S; rintro a w E S
                                                replace S : St w M_64 (blk b_3 (.cells #[.bool false, .int .i64 0, u_65] 42) :: _) := S
                                                refine WL_nil ?_
                                                refine T_n ?_
                                                refine WP_ret ?_
                                                replace S : St w M_64 (mks [] :: _) := S.empty
                                                replace E : Env a 215 (([] : List Nat).map mk) _ := E
                                                replace S := S.front2
                                                replace S := S.front2
                                                replace S := S.front2
                                                exact F_retCG1 (cs := [.bool false, .int .i64 0, u_65]) E S Tryz.results42 rfl (fun w => Tryz.isAgg42 w) (fun w => Tryz.sizeOf42 w) (fun w S => ⟨_, rfl, M_64, _, (hM_2.trans (hM_9.trans (hM_10.trans (hM_11.trans hM_64)))), ⟨_, _, _, _, setI x_5.2.2, rfl, rfl, (by exact hx_66), (by (simp [hl]; done)), (by (rw [show (lsT t9).getD (regN sa) [] = x_5.2.2 from lsT_at hx_5, show (lsT t9).getD (regN sb) [] = x_7.2.2 from lsT_at hx_7]; (try simp only [lsT_set]); first | exact step23 (by assumption) (by assumption) (by assumption) | exact step25 (by assumption) (by assumption) (by assumption) (by assumption) | (simp [StepR, RG.w, regN, *]; done)))⟩, S.drop⟩)
                                              · replace hc_63 := of_decide_eq_false hc_63
                                                refine WP_seq ?_
                                                refine WP_region ?_
                                                refine S_v E rfl (R_eql E rfl rfl) rfl ?_
                                                clear E a; intro a E
                                                refine S_v E rfl (R_assign E rfl) rfl ?_
                                                clear E a; intro a E
                                                refine WL_nil ?_
                                                refine T_n ?_
                                                refine WP_cond E rfl (fun hc_67 => ?_) (fun hc_67 => ?_)
                                                · replace hc_67 := of_decide_eq_true hc_67
                                                  refine WP_seq ?_
                                                  refine WP_region ?_
                                                  refine S_v E rfl (R_move E rfl) rfl ?_
                                                  clear E a; intro a E
                                                  refine S_v E rfl (R_makeFunc E rfl rfl) rfl ?_
                                                  clear E a; intro a E
                                                  replace S := (S.ownNil (e := 3) (sz := 1)).made0
                                                  replace S := S.front2
                                                  replace S : St w M_11 ((JA b_3 42 3) [] :: _) := mkJA S
                                                  replace S := S.front1
                                                  refine S_x (X_inv (p := [Regs KS x0 v1 t9, (JA b_3 42 3) []]) E S rfl rfl rfl (reg_Each hx_5 set1_each (by exact hbt _ _ hx_5)) (Hp.le.refl _) ?_)
                                                  clear E a S; rintro a _ w M_69 _ hM_69 ⟨_, rfl, p_70, rfl, rfl, hp_70n, hp_70m⟩ S E
                                                  replace S : St w M_69 (Regs KS x0 v1 t9 :: (JA b_3 42 3) p_70 :: H) := S
                                                  replace S := S.front1
                                                  have S0 := S; clear S
                                                  obtain ⟨u_71, S⟩ := openJA S0
                                                  clear S0
                                                  replace h2 := h2.le hM_69
                                                  replace hb_1 := hM_69.2 _ _ hb_1
                                                  have hp_70l : p_70.length ≤ x_5.2.2.length := nodup_len hp_70n fun z hz => (hp_70m z).1 hz
                                                  refine WL_nil ?_
                                                  refine T_n ?_
                                                  refine WP_region ?_
                                                  refine S_v E rfl (R_fieldAddr E rfl (FA42_2 _)) rfl ?_
                                                  clear E a; intro a E
                                                  refine S_v E rfl (R_load E rfl (Tryz.isAgg22 _) (cell_blkf (S.mem (.head _)) rfl)) rfl ?_
                                                  clear E a; intro a E
                                                  replace S := S.front1
                                                  have S0 := S; clear S
                                                  obtain ⟨M_72, hM_72, hz_73, S⟩ := S0.freezeI (by (first | omega | (rw [srtM_len]; omega)))
                                                  clear S0
                                                  replace h2 := h2.le hM_72
                                                  replace hb_1 := hM_72.2 _ _ hb_1
                                                  refine S_x (X_pu E S rfl rfl rfl (impl_sorted hz_73 (by first | omega | (simp; done) | (simp; omega) | exact Nat.le_trans (Nat.le_of_eq (List.Perm.length_eq (by assumption))) (by rw [List.length_map]; exact Nat.le_trans (fl_mk _ _) (by omega)))) (Hp.le.refl _) ?_)
                                                  clear E a S; rintro a v_75 w M_74 hM_74 hv_75 S E
                                                  replace h2 := h2.le hM_74
                                                  replace hb_1 := hM_74.2 _ _ hb_1
                                                  replace hz_73 := hz_73.le hM_74
                                                  refine S_v E rfl (R_fieldAddr E rfl (FA42_2 _)) rfl ?_
                                                  clear E a; intro a E
                                                  refine S_x0 (X_storeB (f := 2) E S rfl rfl (Tryz.sizeOf22 _) (RdS.one' hv_75) rfl ?_)
                                                  clear E a S; rintro a w E S
                                                  replace S : St w M_74 (blk b_3 (.cells #[.bool false, .int .i64 0, v_75] 42) :: _) := S
                                                  refine WL_nil ?_
                                                  refine B_n ?_
                                                  refine T_n ?_
                                                  refine WP_seq ?_
                                                  refine WP_region ?_
                                                  refine S_v E rfl (R_loadGB (cs := [.bool false, .int .i64 0, v_75]) E rfl (Tryz.isAgg42 _) (Tryz.sizeOf42 _) (S.mem (.head _))) rfl ?_
                                                  clear E a; intro a E
                                                  refine S_x0 (X_storeG (us := [.bool false, .int .i64 0, v_75]) E S rfl rfl (Tryz.sizeOf42 _) rfl (by intro u hu; simp only [List.mem_cons, List.not_mem_nil, or_false] at hu; rcases hu with rfl | rfl | rfl <;> first | exact rfl | exact rfl | exact (RdS.one' hv_75)) ?_)
                                                  clear E a S; rintro a w E S
                                                  replace S : St w M_74 (blk b_3 (.cells #[.bool false, .int .i64 0, v_75] 42) :: _) := S
                                                  refine WL_nil ?_
                                                  refine T_n ?_
                                                  refine WP_ret ?_
                                                  replace S : St w M_74 (mks [] :: _) := S.empty
                                                  replace E : Env a 215 (([] : List Nat).map mk) _ := E
                                                  replace S := S.front2
                                                  replace S := S.front2
                                                  replace S := S.front2
                                                  exact F_retCG1 (cs := [.bool false, .int .i64 0, v_75]) E S Tryz.results42 rfl (fun w => Tryz.isAgg42 w) (fun w => Tryz.sizeOf42 w) (fun w S => ⟨_, rfl, M_74, _, (hM_2.trans (hM_9.trans (hM_10.trans (hM_11.trans (hM_69.trans (hM_72.trans hM_74)))))), ⟨_, _, _, _, srtM p_70, rfl, rfl, (by exact hv_75), (by (simp [hl]; done)), (by (rw [show (lsT t9).getD (regN sa) [] = x_5.2.2 from lsT_at hx_5, show (lsT t9).getD (regN sb) [] = x_7.2.2 from lsT_at hx_7]; (try simp only [lsT_set]); first | exact step23 (by assumption) (by assumption) (by assumption) | exact step25 (by assumption) (by assumption) (by assumption) (by assumption) | (simp [StepR, RG.w, regN, *]; done)))⟩, S.drop⟩)
                                                · replace hc_67 := of_decide_eq_false hc_67
                                                  refine WP_seq ?_
                                                  refine WP_region ?_
                                                  refine S_v E rfl (R_eql E rfl rfl) rfl ?_
                                                  clear E a; intro a E
                                                  refine S_v E rfl (R_assign E rfl) rfl ?_
                                                  clear E a; intro a E
                                                  refine WL_nil ?_
                                                  refine T_n ?_
                                                  refine WP_cond E rfl (fun hc_76 => ?_) (fun hc_76 => ?_)
                                                  · replace hc_76 := of_decide_eq_true hc_76
                                                    refine WP_region ?_
                                                    refine S_v E rfl (R_move E rfl) rfl ?_
                                                    clear E a; intro a E
                                                    refine S_x (X_inv (p := [Regs KS x0 v1 t9]) E S rfl rfl rfl (reg_Pop hx_5) (Hp.le.refl _) ?_)
                                                    clear E a S; rintro a _ w M_77 _ hM_77 ⟨_, _, rfl, k_78, b_79, rfl, rfl, hk_78, rfl⟩ S E
                                                    replace S : St w M_77 (Regs KS x0 v1 ((t9).set ((sa % 8).toNat) (x_5.w (setDif x_5.2.2 (if b_79 = true then [k_78] else [])))) :: blk b_3 (.cells #[.bool false, .int .i64 0, .slice none 0 0] 42) :: H) := S
                                                    replace h2 := h2.le hM_77
                                                    replace hb_1 := hM_77.2 _ _ hb_1
                                                    refine S_v E rfl (R_move E rfl) rfl ?_
                                                    clear E a; intro a E
                                                    refine S_v E rfl (R_extract E rfl rfl) rfl ?_
                                                    clear E a; intro a E
                                                    refine S_v E rfl (R_extract E rfl rfl) rfl ?_
                                                    clear E a; intro a E
                                                    refine S_v E rfl (R_fieldAddr E rfl (FA42_1 _)) rfl ?_
                                                    clear E a; intro a E
                                                    replace S := S.front1
                                                    refine S_x0 (X_storeB (f := 1) E S rfl rfl (Tryz.sizeOf3 _) rfl rfl ?_)
                                                    clear E a S; rintro a w E S
                                                    replace S : St w M_77 (blk b_3 (.cells #[.bool false, .int .i64 k_78, .slice none 0 0] 42) :: _) := S
                                                    refine S_v E rfl (R_fieldAddr E rfl (FA42_0 _)) rfl ?_
                                                    clear E a; intro a E
                                                    refine S_x0 (X_storeB (f := 0) E S rfl rfl (Tryz.sizeOf4 _) rfl rfl ?_)
                                                    clear E a S; rintro a w E S
                                                    replace S : St w M_77 (blk b_3 (.cells #[.bool b_79, .int .i64 k_78, .slice none 0 0] 42) :: _) := S
                                                    refine WL_nil ?_
                                                    refine B_n ?_
                                                    refine T_n ?_
                                                    refine WP_seq ?_
                                                    refine WP_region ?_
                                                    refine S_v E rfl (R_loadGB (cs := [.bool b_79, .int .i64 k_78, .slice none 0 0]) E rfl (Tryz.isAgg42 _) (Tryz.sizeOf42 _) (S.mem (.head _))) rfl ?_
                                                    clear E a; intro a E
                                                    refine S_x0 (X_storeG (us := [.bool b_79, .int .i64 k_78, .slice none 0 0]) E S rfl rfl (Tryz.sizeOf42 _) rfl (by intro u hu; simp only [List.mem_cons, List.not_mem_nil, or_false] at hu; rcases hu with rfl | rfl | rfl <;> first | exact rfl | exact rfl | exact rfl) ?_)
                                                    clear E a S; rintro a w E S
                                                    replace S : St w M_77 (blk b_3 (.cells #[.bool b_79, .int .i64 k_78, .slice none 0 0] 42) :: _) := S
                                                    refine WL_nil ?_
                                                    refine T_n ?_
                                                    refine WP_ret ?_
                                                    replace S : St w M_77 (mks [] :: _) := S.empty
                                                    replace E : Env a 215 (([] : List Nat).map mk) _ := E
                                                    replace S := S.front2
                                                    replace S := S.front2
                                                    replace S := S.front2
                                                    exact F_retCG1 (cs := [.bool b_79, .int .i64 k_78, .slice none 0 0]) E S Tryz.results42 rfl (fun w => Tryz.isAgg42 w) (fun w => Tryz.sizeOf42 w) (fun w S => ⟨_, rfl, M_77, _, (hM_2.trans (hM_9.trans (hM_10.trans (hM_11.trans hM_77)))), ⟨_, _, _, _, ([] : List Int), rfl, rfl, (by exact RdS.nil _), (by (simp [hl]; done)), (by (rw [show (lsT t9).getD (regN sa) [] = x_5.2.2 from lsT_at hx_5, show (lsT t9).getD (regN sb) [] = x_7.2.2 from lsT_at hx_7]; (try simp only [lsT_set]); first | exact step23 (by assumption) (by assumption) (by assumption) | exact step25 (by assumption) (by assumption) (by assumption) (by assumption) | (simp [StepR, RG.w, regN, *]; done)))⟩, S.drop⟩)
                                                  · replace hc_76 := of_decide_eq_false hc_76
                                                    refine WP_seq ?_
                                                    refine WP_region ?_
                                                    refine S_v E rfl (R_eql E rfl rfl) rfl ?_
                                                    clear E a; intro a E
                                                    refine S_v E rfl (R_assign E rfl) rfl ?_
                                                    clear E a; intro a E
                                                    refine WL_nil ?_
                                                    refine T_n ?_
                                                    refine WP_cond E rfl (fun hc_80 => ?_) (fun hc_80 => ?_)
                                                    · replace hc_80 := of_decide_eq_true hc_80
                                                      refine WP_seq ?_
                                                      refine WP_region ?_
                                                      refine S_v E rfl (R_move E rfl) rfl ?_
                                                      clear E a; intro a E
                                                      refine S_v E rfl (R_fieldAddr E rfl (FA40_4 _)) rfl ?_
                                                      clear E a; intro a E
                                                      refine S_v E rfl (R_loadM E rfl Tryz.isAgg3 S.imm (cellM_boxo hb_1 rfl)) rfl ?_
                                                      clear E a; intro a E
                                                      refine S_x (X_inv (p := [Regs KS x0 v1 t9]) E S rfl rfl rfl (reg_PopN hx_5 (by exact hbt _ _ hx_5)) (Hp.le.refl _) ?_)
                                                      clear E a S; rintro a _ w M_81 _ hM_81 ⟨_, _, rfl, u_82, p_83, rfl, rfl, hp_83n, hp_83s, hp_83l, rfl⟩ S E
                                                      replace S : St w M_81 (Regs KS x0 v1 ((t9).set ((sa % 8).toNat) (x_5.w (setDif x_5.2.2 p_83))) :: OwnI 3 u_82 p_83 :: blk b_3 (.cells #[.bool false, .int .i64 0, .slice none 0 0] 42) :: H) := S
                                                      replace h2 := h2.le hM_81
                                                      replace hb_1 := hM_81.2 _ _ hb_1
                                                      refine S_v E rfl (R_move E rfl) rfl ?_
                                                      clear E a; intro a E
                                                      refine S_v E rfl (R_extract E rfl rfl) rfl ?_
                                                      clear E a; intro a E
                                                      refine S_v E rfl (R_extract E rfl rfl) rfl ?_
                                                      clear E a; intro a E
                                                      refine S_v E rfl (R_fieldAddr E rfl (FA42_2 _)) rfl ?_
                                                      clear E a; intro a E
                                                      replace S := S.front1
                                                      have ho_84 := S.oneI
                                                      replace S := S.front2
                                                      refine S_x0 (X_storeB (f := 2) E S rfl rfl (Tryz.sizeOf22 _) ho_84 rfl ?_)
                                                      clear E a S; rintro a w E S
                                                      replace S : St w M_81 (blk b_3 (.cells #[.bool false, .int .i64 0, u_82] 42) :: _) := S
                                                      refine S_v E rfl (R_fieldAddr E rfl (FA42_1 _)) rfl ?_
                                                      clear E a; intro a E
                                                      refine S_x0 (X_storeB (f := 1) E S rfl rfl (Tryz.sizeOf3 _) rfl rfl ?_)
                                                      clear E a S; rintro a w E S
                                                      replace S : St w M_81 (blk b_3 (.cells #[.bool false, .int .i64 ((p_83.length : Nat) : Int), u_82] 42) :: _) := S
                                                      refine WL_nil ?_
                                                      refine T_n ?_
                                                      refine WP_region ?_
                                                      refine S_v E rfl (R_fieldAddr E rfl (FA42_2 _)) rfl ?_
                                                      clear E a; intro a E
                                                      refine S_v E rfl (R_load E rfl (Tryz.isAgg22 _) (cell_blkf (S.mem (.head _)) rfl)) rfl ?_
                                                      clear E a; intro a E
                                                      replace S := S.front1
                                                      have S0 := S; clear S
                                                      obtain ⟨M_85, hM_85, hz_86, S⟩ := S0.freezeI (by (first | omega | (rw [srtM_len]; omega)))
                                                      clear S0
                                                      replace h2 := h2.le hM_85
                                                      replace hb_1 := hM_85.2 _ _ hb_1
                                                      refine S_x (X_pu E S rfl rfl rfl (impl_sorted hz_86 (by first | omega | (simp; done) | (simp; omega) | exact Nat.le_trans (Nat.le_of_eq (List.Perm.length_eq (by assumption))) (by rw [List.length_map]; exact Nat.le_trans (fl_mk _ _) (by omega)))) (Hp.le.refl _) ?_)
                                                      clear E a S; rintro a v_88 w M_87 hM_87 hv_88 S E
                                                      replace h2 := h2.le hM_87
                                                      replace hb_1 := hM_87.2 _ _ hb_1
                                                      replace hz_86 := hz_86.le hM_87
                                                      refine S_v E rfl (R_fieldAddr E rfl (FA42_2 _)) rfl ?_
                                                      clear E a; intro a E
                                                      refine S_x0 (X_storeB (f := 2) E S rfl rfl (Tryz.sizeOf22 _) (RdS.one' hv_88) rfl ?_)
                                                      clear E a S; rintro a w E S
                                                      replace S : St w M_87 (blk b_3 (.cells #[.bool false, .int .i64 ((p_83.length : Nat) : Int), v_88] 42) :: _) := S
                                                      refine WL_nil ?_
                                                      refine B_n ?_
                                                      refine T_n ?_
                                                      refine WP_seq ?_
                                                      refine WP_region ?_
                                                      refine S_v E rfl (R_loadGB (cs := [.bool false, .int .i64 ((p_83.length : Nat) : Int), v_88]) E rfl (Tryz.isAgg42 _) (Tryz.sizeOf42 _) (S.mem (.head _))) rfl ?_
                                                      clear E a; intro a E
                                                      refine S_x0 (X_storeG (us := [.bool false, .int .i64 ((p_83.length : Nat) : Int), v_88]) E S rfl rfl (Tryz.sizeOf42 _) rfl (by intro u hu; simp only [List.mem_cons, List.not_mem_nil, or_false] at hu; rcases hu with rfl | rfl | rfl <;> first | exact rfl | exact rfl | exact (RdS.one' hv_88)) ?_)
                                                      clear E a S; rintro a w E S
                                                      replace S : St w M_87 (blk b_3 (.cells #[.bool false, .int .i64 ((p_83.length : Nat) : Int), v_88] 42) :: _) := S
                                                      refine WL_nil ?_
                                                      refine T_n ?_
                                                      refine WP_ret ?_
                                                      replace S : St w M_87 (mks [] :: _) := S.empty
                                                      replace E : Env a 215 (([] : List Nat).map mk) _ := E
                                                      replace S := S.front2
                                                      replace S := S.front2
                                                      replace S := S.front2
                                                      exact F_retCG1 (cs := [.bool false, .int .i64 ((p_83.length : Nat) : Int), v_88]) E S Tryz.results42 rfl (fun w => Tryz.isAgg42 w) (fun w => Tryz.sizeOf42 w) (fun w S => ⟨_, rfl, M_87, _, (hM_2.trans (hM_9.trans (hM_10.trans (hM_11.trans (hM_81.trans (hM_85.trans hM_87)))))), ⟨_, _, _, _, srtM p_83, rfl, rfl, (by exact hv_88), (by (simp [hl]; done)), (by (rw [show (lsT t9).getD (regN sa) [] = x_5.2.2 from lsT_at hx_5, show (lsT t9).getD (regN sb) [] = x_7.2.2 from lsT_at hx_7]; (try simp only [lsT_set]); first | exact step23 (by assumption) (by assumption) (by assumption) | exact step25 (by assumption) (by assumption) (by assumption) (by assumption) | (simp [StepR, RG.w, regN, *]; done)))⟩, S.drop⟩)
                                                    · replace hc_80 := of_decide_eq_false hc_80
                                                      refine WP_seq ?_
                                                      refine WP_region ?_
                                                      refine S_v E rfl (R_eql E rfl rfl) rfl ?_
                                                      clear E a; intro a E
                                                      refine S_v E rfl (R_assign E rfl) rfl ?_
                                                      clear E a; intro a E
                                                      refine WL_nil ?_
                                                      refine T_n ?_
                                                      refine WP_cond E rfl (fun hc_89 => ?_) (fun hc_89 => ?_)
                                                      · replace hc_89 := of_decide_eq_true hc_89
                                                        refine WP_region ?_
                                                        refine S_v E rfl (R_move E rfl) rfl ?_
                                                        clear E a; intro a E
                                                        refine S_v E rfl (R_move E rfl) rfl ?_
                                                        clear E a; intro a E
                                                        refine S_v E rfl (R_fieldAddr E rfl (FA40_5 _)) rfl ?_
                                                        clear E a; intro a E
                                                        refine S_v E rfl (R_loadM E rfl Tryz.isAgg22 S.imm (cellM_boxo hb_1 rfl)) rfl ?_
                                                        clear E a; intro a E
                                                        refine S_x (X_sp (p := []) E S rfl rfl rfl (reg_keySet h2 (by first | assumption | omega)) (Hp.le.refl _) ?_)
                                                        clear E a S; rintro a _ w M_90 _ hM_90 ⟨x_91, rfl, rfl, hx_92⟩ S E
                                                        replace S : St w M_90 (SetI KS x0 x_91 :: Regs KS x0 v1 t9 :: blk b_3 (.cells #[.bool false, .int .i64 0, .slice none 0 0] 42) :: H) := S
                                                        replace h2 := h2.le hM_90
                                                        replace hb_1 := hM_90.2 _ _ hb_1
                                                        refine S_v E rfl (R_nilCheck E rfl rfl) rfl ?_
                                                        clear E a; intro a E
                                                        replace S := S.front1
                                                        refine S_x0 (X_storeR (x' := x_91) E S rfl rfl (Tryz.sizeOf55 _) hp_8 hkp_8 ?_)
                                                        clear E a S; rintro a w E S
                                                        refine WL_nil ?_
                                                        refine B_n ?_
                                                        refine T_n ?_
                                                        refine WP_seq ?_
                                                        refine WP_region ?_
                                                        refine S_v E rfl (R_loadGB (cs := [.bool false, .int .i64 0, .slice none 0 0]) E rfl (Tryz.isAgg42 _) (Tryz.sizeOf42 _) (S.mem (.tail _ (.head _)))) rfl ?_
                                                        clear E a; intro a E
                                                        replace S := S.front1
                                                        refine S_x0 (X_storeG (us := [.bool false, .int .i64 0, .slice none 0 0]) E S rfl rfl (Tryz.sizeOf42 _) rfl (by intro u hu; simp only [List.mem_cons, List.not_mem_nil, or_false] at hu; rcases hu with rfl | rfl | rfl <;> first | exact rfl | exact rfl | exact rfl) ?_)
                                                        clear E a S; rintro a w E S
                                                        replace S : St w M_90 (blk b_3 (.cells #[.bool false, .int .i64 0, .slice none 0 0] 42) :: _) := S
                                                        refine WL_nil ?_
                                                        refine T_n ?_
                                                        refine WP_ret ?_
                                                        replace S : St w M_90 (mks [] :: _) := S.empty
                                                        replace E : Env a 215 (([] : List Nat).map mk) _ := E
                                                        replace S := S.front2
                                                        replace S := S.front2
                                                        replace S := S.front2
                                                        exact F_retCG1 (cs := [.bool false, .int .i64 0, .slice none 0 0]) E S Tryz.results42 rfl (fun w => Tryz.isAgg42 w) (fun w => Tryz.sizeOf42 w) (fun w S => ⟨_, rfl, M_90, _, (hM_2.trans (hM_9.trans (hM_10.trans (hM_11.trans hM_90)))), ⟨_, _, _, _, ([] : List Int), rfl, rfl, (by exact RdS.nil _), (by (simp [hl]; done)), (by (rw [show (lsT t9).getD (regN sa) [] = x_5.2.2 from lsT_at hx_5, show (lsT t9).getD (regN sb) [] = x_7.2.2 from lsT_at hx_7]; (try simp only [lsT_set]); first | exact step23 (by assumption) (by assumption) (by assumption) | exact step25 (by assumption) (by assumption) (by assumption) (by assumption) | (simp [StepR, RG.w, regN, *]; done)))⟩, S.drop⟩)
                                                      · replace hc_89 := of_decide_eq_false hc_89
                                                        refine WP_skip ?_
                                                        refine B_n ?_
                                                        refine T_n ?_
                                                        refine WP_seq ?_
                                                        refine WP_region ?_
                                                        refine S_v E rfl (R_loadGB (cs := [.bool false, .int .i64 0, .slice none 0 0]) E rfl (Tryz.isAgg42 _) (Tryz.sizeOf42 _) (S.mem (.tail _ (.head _)))) rfl ?_
                                                        clear E a; intro a E
                                                        replace S := S.front1
                                                        refine S_x0 (X_storeG (us := [.bool false, .int .i64 0, .slice none 0 0]) E S rfl rfl (Tryz.sizeOf42 _) rfl (by intro u hu; simp only [List.mem_cons, List.not_mem_nil, or_false] at hu; rcases hu with rfl | rfl | rfl <;> first | exact rfl | exact rfl | exact rfl) ?_)
                                                        clear E a S; rintro a w E S
                                                        replace S : St w M_11 (blk b_3 (.cells #[.bool false, .int .i64 0, .slice none 0 0] 42) :: _) := S
                                                        refine WL_nil ?_
                                                        refine T_n ?_
                                                        refine WP_ret ?_
                                                        replace S : St w M_11 (mks [] :: _) := S.empty
                                                        replace E : Env a 215 (([] : List Nat).map mk) _ := E
                                                        replace S := S.front2
                                                        replace S := S.front2
                                                        replace S := S.front2
                                                        exact F_retCG1 (cs := [.bool false, .int .i64 0, .slice none 0 0]) E S Tryz.results42 rfl (fun w => Tryz.isAgg42 w) (fun w => Tryz.sizeOf42 w) (fun w S => ⟨_, rfl, M_11, _, (hM_2.trans (hM_9.trans (hM_10.trans hM_11))), ⟨_, _, _, _, ([] : List Int), rfl, rfl, (by exact RdS.nil _), (by (simp [hl]; done)), (by (rw [show (lsT t9).getD (regN sa) [] = x_5.2.2 from lsT_at hx_5, show (lsT t9).getD (regN sb) [] = x_7.2.2 from lsT_at hx_7]; (try simp only [lsT_set]); first | exact step23 (by assumption) (by assumption) (by assumption) | exact step25 (by assumption) (by assumption) (by assumption) (by assumption) | (simp [StepR, RG.w, regN, *]; done)))⟩, S.drop⟩)

set_option maxRecDepth 100000 in
set_option maxHeartbeats 4000000 in
theorem impl_SetScript {M : Hp} {x0 : Bool} {v1 : Value} {l1 : List SSt} (h1 : RdS 6 RSS M v1 l1) (hs1 : l1.length ≤ 1000) (hs2 : ∀ s ∈ l1, s.2.2.2.2.2.length ≤ 1000) :
    Sp Tryz.prog (.func (.func 24) #[] #[]) M [.bool x0, v1] [] (fun r M' C' => ∃ u_ w_ an_ ls_, C' = [] ∧ r = .tuple #[u_, w_] ∧ (RdS 3 RAN M' u_ an_) ∧ (RdII M' w_ ls_) ∧ (PlayR l1 an_ ls_)) := by
  refine Sp_enter Tryz.func24 rfl Tryz.ntmps24 rfl Tryz.call24 ?_
  intro a w M1 H hM1 S E
  replace h1 := h1.le RSS_mono hM1
  have b1 := h1.bound
  refine WP_seq ?_
  refine WP_region ?_
  refine S_v E rfl (R_assign E rfl) rfl ?_
  clear E a; intro a E
  refine S_v E rfl (R_assign E rfl) rfl ?_
  clear E a; intro a E
  refine WL_nil ?_
  refine T_n ?_
  refine WP_seq ?_
  refine WP_region ?_
  refine S_v E rfl (R_assign E rfl) rfl ?_
  clear E a; intro a E
  refine WL_nil ?_
  refine T_n ?_
  refine WP_seq ?_
  refine WP_seq ?_
  refine WP_region ?_
  refine S_v E rfl (R_assign E rfl) rfl ?_
  clear E a; intro a E
  refine WL_nil ?_
  refine T_n ?_
  refine WP_block ?_
  replace S := nilRegs KS x0 S
  refine WP_loop (γ := Nat) (fun (k : Nat) a w => ∃ (M_1 : Hp) (t6 : List RG) (u6 : Value), Hp.le M1 M_1 ∧ St w M_1 (Regs KS x0 u6 t6 :: H) ∧ Env a 51 [] [(0, .bool x0), (1, v1), (6, u6), (7, .int .i64 ((k : Nat) : Int))] ∧ (k ≤ 8) ∧ (t6.length = k) ∧ (∀ y ∈ t6, y.2.2 = [])) (fun k => 8 - k) 0 ⟨M1, _, _, Hp.le.refl _, S, E.keep ⟨rfl, rfl, rfl, rfl, trivial⟩, by ((try clear S); (try clear E); first | assumption | omega | rfl | (simp; done) | (simp_all; done) | (simp [List.take_add_one, *]; done) | grind [List.take_add_one]), (by rfl), (by simp)⟩ ?_
  try clear E
  try clear S
  try clear a
  try clear w
  rintro k a w ⟨M_1, t6, u6, hM_1, S, E, hL0_0, hL0_1, hL0_2⟩
  replace h1 := h1.le RSS_mono hM_1
  refine WP_seq ?_
  refine WP_seq ?_
  refine WP_region ?_
  refine S_v E rfl (R_move E rfl) rfl ?_
  clear E a; intro a E
  refine S_v E rfl (R_lss E rfl rfl) rfl ?_
  clear E a; intro a E
  refine WL_nil ?_
  refine T_n ?_
  refine WP_cond E rfl (fun hc_2 => ?_) (fun hc_2 => ?_)
  · replace hc_2 := of_decide_eq_true hc_2
    refine WP_skip ?_
    refine T_n ?_
    refine WP_seq ?_
    refine WP_block ?_
    refine WP_region ?_
    refine S_v E rfl (R_move E rfl) rfl ?_
    clear E a; intro a E
    refine S_v E rfl (R_move E rfl) rfl ?_
    clear E a; intro a E
    refine S_x (X_sp (p := []) E S rfl rfl rfl (reg_setOf (RdS.nil _) (by first | assumption | omega | (simp; done))) (Hp.le.refl _) ?_)
    clear E a S; rintro a _ w M_3 _ hM_3 ⟨x_4, rfl, rfl, hx_5⟩ S E
    replace S : St w M_3 (SetI KS x0 x_4 :: Regs KS x0 u6 t6 :: H) := S
    replace h1 := h1.le RSS_mono hM_3
    refine S_x (X_build1 (vs := [ifv KS x0 x_4]) E S rfl T62 rfl rfl rfl (by intro u hu; simp only [List.mem_cons, List.not_mem_nil, or_false] at hu; rw [hu]; exact one_ifv _ _ _) ?_)
    clear E a S; rintro a w v_6 E S
    replace S := S.front2
    replace S := S.front2
    replace S := S.front2
    refine S_x (X_appendRG (K := KS) (x' := x_4) E S rfl rfl rfl T62 (by (first | omega | (simp only [List.length_append, List.length_take, List.length_cons, List.length_nil]; omega))) (by (first | omega | (simp only [List.length_append, List.length_take, List.length_cons, List.length_nil]; omega))) ?_)
    clear E a S; rintro a w v_7 E S
    refine S_v E rfl (R_assign E rfl) rfl ?_
    clear E a; intro a E
    refine WL_nil ?_
    refine B_n ?_
    refine T_n ?_
    refine WP_region ?_
    refine S_v E rfl (R_move E rfl) rfl ?_
    clear E a; intro a E
    refine S_v E rfl (R_addx (m := ((k + 1 : Nat) : Int)) E rfl rfl (by omega) (by omega)) rfl ?_
    clear E a; intro a E
    refine S_v E rfl (R_assign E rfl) rfl ?_
    clear E a; intro a E
    refine WL_nil ?_
    refine T_n ?_
    exact ⟨k + 1, ⟨M_3, _, _, (hM_1.trans hM_3), S, E.keep ⟨rfl, rfl, rfl, rfl, trivial⟩, by ((try clear S); (try clear E); first | assumption | omega | rfl | (simp; done) | (simp_all; done) | (simp [List.take_add_one, *]; done) | grind [List.take_add_one]), (by simp [*]), (by intro y hy; rcases List.mem_append.1 hy with h9 | h9; (exact (by assumption : ∀ y ∈ t6, y.2.2 = []) y h9); (rw [List.mem_singleton.1 h9]; assumption))⟩, by omega⟩
  · replace hc_2 := of_decide_eq_false hc_2
    refine WP_exit ?_
    refine T_x ?_
    refine T_x ?_
    refine B_x ?_
    refine T_n ?_
    refine WP_seq ?_
    refine WP_region ?_
    refine S_v E rfl (R_assign E rfl) rfl ?_
    clear E a; intro a E
    refine WL_nil ?_
    refine T_n ?_
    refine WP_seq ?_
    refine WP_seq ?_
    refine WP_region ?_
    refine S_v E rfl (R_move E rfl) rfl ?_
    clear E a; intro a E
    refine S_v E rfl (R_lenV E rfl T33 h1.len) rfl ?_
    clear E a; intro a E
    refine S_v E rfl (R_move E rfl) rfl ?_
    clear E a; intro a E
    refine WL_nil ?_
    refine T_n ?_
    refine WP_block ?_
    replace S : St w M_1 (OwnC 42 3 (.slice none 0 0) ([] : List SAn).length [] :: _) := S.ownNil
    have hr_9 : RowsR RAN 3 M_1 ([] : List SAn) [] := RowsR.nil
    replace S := S.front1
    replace S := S.front1
    replace S := S.front1
    refine WP_loop (γ := Nat) (fun (k : Nat) a w => ∃ (M_10 : Hp) (t6 : List RG) (an8 : List SAn) (u8 : Value) (xs8 : List Value), Hp.le M_1 M_10 ∧ St w M_10 (Regs KS x0 u6 t6 :: OwnC 42 3 u8 an8.length xs8 :: H) ∧ Env a 51 [] [(0, .bool x0), (6, u6), (8, u8), (23, v1), (24, .int .i64 (((l1).length : Nat) : Int)), (25, .int .i64 ((k : Nat) : Int))] ∧ (k ≤ (l1).length) ∧ (PlayR (l1.take k) an8 (lsT t6)) ∧ RowsR RAN 3 M_10 an8 xs8) (fun k => ((l1).length) - k) 0 ⟨M_1, _, _, _, _, Hp.le.refl _, S, E.keep ⟨rfl, rfl, rfl, rfl, rfl, rfl, trivial⟩, by ((try clear S); (try clear E); first | assumption | omega | rfl | (simp; done) | (simp_all; done) | (simp [List.take_add_one, *]; done) | grind [List.take_add_one]), (by rw [show lsT t6 = List.replicate 8 [] from lsT_new (by omega) (by assumption)]; exact PlayR.nil), hr_9⟩ ?_
    try clear E
    try clear S
    try clear a
    try clear w
    rintro k a w ⟨M_10, t6, an8, u8, xs8, hM_10, S, E, hL1_0, hL1_1, hr8⟩
    replace h1 := h1.le RSS_mono hM_10
    have hpl : PlayR (l1.take k) an8 (lsT t6) := by assumption
    have hbt := play_bnd hpl hs1 hs2
    have hl6 : t6.length = 8 := (List.length_map (f := fun x : RG => x.2.2)).symm.trans (play_canon hpl).2.1
    have ha8 := (play_canon hpl).2.2
    rw [List.length_take] at ha8
    refine WP_seq ?_
    refine WP_region ?_
    refine S_v E rfl (R_lss E rfl rfl) rfl ?_
    clear E a; intro a E
    refine WL_nil ?_
    refine T_n ?_
    refine WP_seq ?_
    refine WP_cond E rfl (fun hc_11 => ?_) (fun hc_11 => ?_)
    · replace hc_11 := of_decide_eq_true hc_11
      refine WP_skip ?_
      refine T_n ?_
      refine WP_seq ?_
      refine WP_block ?_
      refine WP_seq ?_
      refine WP_region ?_
      obtain ⟨x_12, hx_12⟩ : ∃ x, (l1)[k]? = some x := ⟨_, List.getElem?_eq_getElem (by first | omega | (simp; done) | (simp; omega) | (simp_all; omega))⟩
      obtain ⟨p_13, u_14, hp_13, qp_13, hu_14⟩ := RdSS.at h1 hx_12
      have bu_14 := hu_14.bound
      refine S_v E rfl (R_idx E rfl rfl T33 hp_13 rfl) rfl ?_
      clear E a; intro a E
      refine S_v E rfl (R_loadA (cs := [.int .i64 x_12.1, .int .i64 x_12.2.1, .int .i64 x_12.2.2.1, .int .i64 x_12.2.2.2.1, .int .i64 x_12.2.2.2.2.1, u_14]) E rfl (Tryz.isAgg40 _) (Tryz.sizeOf40 _) S.imm qp_13) rfl ?_
      clear E a; intro a E
      refine S_x (X_alloc (cs := #[.int .i64 0, .int .i64 0, .int .i64 0, .int .i64 0, .int .i64 0, .slice none 0 0]) E S rfl Tryz.zeroValue40 rfl ?_)
      clear E a S; rintro a w b_15 E S
      refine S_x0 (X_storeG (us := [.int .i64 x_12.1, .int .i64 x_12.2.1, .int .i64 x_12.2.2.1, .int .i64 x_12.2.2.2.1, .int .i64 x_12.2.2.2.2.1, u_14]) E S rfl rfl (Tryz.sizeOf40 _) rfl (by intro u hu; simp only [List.mem_cons, List.not_mem_nil, or_false] at hu; rcases hu with rfl | rfl | rfl | rfl | rfl | rfl <;> first | exact rfl | exact rfl | exact rfl | exact rfl | exact rfl | exact (RdS.one' hu_14)) ?_)
      clear E a S; rintro a w E S
      replace S : St w M_10 (blk b_15 (.cells #[.int .i64 x_12.1, .int .i64 x_12.2.1, .int .i64 x_12.2.2.1, .int .i64 x_12.2.2.2.1, .int .i64 x_12.2.2.2.2.1, u_14] 40) :: _) := S
      have S0 := S; clear S
      obtain ⟨M_16, hM_16, hb_17, S⟩ := S0.freezeB
      clear S0
      replace h1 := h1.le RSS_mono hM_16
      replace hr8 := hr8.le RAN_mono hM_16
      replace hu_14 := hu_14.le hM_16
      refine WL_nil ?_
      refine T_n ?_
      refine WP_region ?_
      refine S_v E rfl (R_move E rfl) rfl ?_
      clear E a; intro a E
      refine S_v E rfl (R_move E rfl) rfl ?_
      clear E a; intro a E
      refine S_v E rfl (R_move E rfl) rfl ?_
      clear E a; intro a E
      refine S_v E rfl (R_loadGM E rfl (Tryz.isAgg40 _) (Tryz.sizeOf40 _) S.imm hb_17) rfl ?_
      clear E a; intro a E
      refine S_x (X_sp (p := [Regs KS x0 u6 t6]) E S rfl rfl rfl (impl_set hu_14 (by first | assumption | omega) (by first | assumption | omega) (by first | assumption | omega | (have h9 := hs2 _ (List.mem_of_getElem? (by assumption)); omega))) (Hp.le.refl _) ?_)
      clear E a S; rintro a _ w M_18 _ hM_18 ⟨t_19, is_20, n_21, u_22, al_23, rfl, rfl, hx_24, hx_25, hx_26⟩ S E
      replace S : St w M_18 (Regs KS x0 u6 t_19 :: OwnC 42 3 u8 an8.length xs8 :: H) := S
      replace h1 := h1.le RSS_mono hM_18
      replace hr8 := hr8.le RAN_mono hM_18
      replace hu_14 := hu_14.le hM_18
      replace hb_17 := hM_18.2 _ _ hb_17
      refine S_x (X_buildA1 (R := RAN) (cs := [.bool is_20, .int .i64 n_21, u_22]) (x0 := (is_20, n_21, al_23)) RAN_mono E S rfl T35 rfl rfl rfl ⟨_, rfl, hx_24⟩ ?_)
      clear E a S; rintro a v_27 w M_28 hM_28 hv_27 S E
      replace h1 := h1.le RSS_mono hM_28
      replace hr8 := hr8.le RAN_mono hM_28
      replace hu_14 := hu_14.le hM_28
      replace hb_17 := hM_28.2 _ _ hb_17
      replace hx_24 := hx_24.le hM_28
      replace S := S.front1
      refine S_x (X_appendR (R := RAN) (zs := an8) (ys := [(is_20, n_21, al_23)]) E S hr8 rfl rfl rfl T35 hv_27 one_RAN (by (first | omega | (simp only [List.length_append, List.length_take, List.length_cons, List.length_nil]; omega))) (by (first | omega | (simp only [List.length_append, List.length_take, List.length_cons, List.length_nil]; omega))) ?_)
      clear E a S; rintro a w v_29 xs_30 E hr_31 S
      refine S_v E rfl (R_assign E rfl) rfl ?_
      clear E a; intro a E
      refine WL_nil ?_
      refine B_n ?_
      refine T_n ?_
      refine WP_region ?_
      refine S_v E rfl (R_addx (m := ((k + 1 : Nat) : Int)) E rfl rfl (by omega) (by omega)) rfl ?_
      clear E a; intro a E
      refine S_v E rfl (R_move E rfl) rfl ?_
      clear E a; intro a E
      refine WL_nil ?_
      refine T_n ?_
      replace S := S.front1
      replace S := S.front1
      replace S := S.front1
      exact ⟨k + 1, ⟨M_28, _, _, _, _, (hM_10.trans (hM_16.trans (hM_18.trans hM_28))), S, E.keep ⟨rfl, rfl, rfl, rfl, rfl, rfl, trivial⟩, by ((try clear S); (try clear E); first | assumption | omega | rfl | (simp; done) | (simp_all; done) | (simp [List.take_add_one, *]; done) | grind [List.take_add_one]), (by exact play_step (by assumption) (by assumption) (by assumption)), hr_31⟩, by omega⟩
    · replace hc_11 := of_decide_eq_false hc_11
      have hbt := play_bnd hpl hs1 hs2
      refine WP_exit ?_
      refine T_x ?_
      refine T_x ?_
      refine B_x ?_
      refine T_n ?_
      refine WP_seq ?_
      refine WP_region ?_
      refine S_v E rfl (R_assign E rfl) rfl ?_
      clear E a; intro a E
      refine WL_nil ?_
      refine T_n ?_
      refine WP_seq ?_
      refine WP_seq ?_
      refine WP_region ?_
      refine S_v E rfl (R_move E rfl) rfl ?_
      clear E a; intro a E
      refine S_v E rfl (R_lenV E rfl T62 (lenR S)) rfl ?_
      clear E a; intro a E
      refine S_v E rfl (R_move E rfl) rfl ?_
      clear E a; intro a E
      refine WL_nil ?_
      refine T_n ?_
      refine WP_block ?_
      replace S : St w M_10 (OwnC 22 1 (.slice none 0 0) ([] : List (List Int)).length [] :: _) := S.ownNil
      have hr_33 : RowsR (RSl 1 RInt) 1 M_10 ([] : List (List Int)) [] := RowsR.nil
      have hre : ([] : List (List Int)) = (lsT t6).take 0 := by first | (simp; done) | exact ends_step (play_canon (by assumption)).1 (by assumption)
      replace S := S.reR hre
      replace hr_33 := hr_33.eq hre
      clear hre
      refine WP_loop (γ := Nat) (fun (m : Nat) a w => ∃ (M_34 : Hp) (u11 : Value) (xs11 : List Value), Hp.le M_10 M_34 ∧ St w M_34 (OwnC 22 1 u11 ((lsT t6).take m).length xs11 :: Regs KS x0 u6 t6 :: OwnC 42 3 u8 an8.length xs8 :: H) ∧ Env a 51 [] [(8, u8), (11, u11), (37, u6), (38, .int .i64 (((t6).length : Nat) : Int)), (39, .int .i64 ((m : Nat) : Int))] ∧ (m ≤ (t6).length) ∧ RowsR (RSl 1 RInt) 1 M_34 ((lsT t6).take m) xs11) (fun m => ((t6).length) - m) 0 ⟨M_10, _, _, Hp.le.refl _, S, E.keep ⟨rfl, rfl, rfl, rfl, rfl, trivial⟩, by ((try clear S); (try clear E); first | assumption | omega | rfl | (simp; done) | (simp_all; done) | (simp [List.take_add_one, *]; done) | grind [List.take_add_one]), hr_33⟩ ?_
      try clear E
      try clear S
      try clear a
      try clear w
      rintro m a w ⟨M_34, u11, xs11, hM_34, S, E, hL2_0, hr11⟩
      replace h1 := h1.le RSS_mono hM_34
      replace hr8 := hr8.le RAN_mono hM_34
      have hml : (lsT t6).length = t6.length := List.length_map ..
      refine WP_seq ?_
      refine WP_region ?_
      refine S_v E rfl (R_lss E rfl rfl) rfl ?_
      clear E a; intro a E
      refine WL_nil ?_
      refine T_n ?_
      refine WP_seq ?_
      refine WP_cond E rfl (fun hc_35 => ?_) (fun hc_35 => ?_)
      · replace hc_35 := of_decide_eq_true hc_35
        refine WP_skip ?_
        refine T_n ?_
        refine WP_seq ?_
        refine WP_block ?_
        refine WP_seq ?_
        refine WP_region ?_
        replace S := S.front1
        have hkp_36 : m < (t6).length := by omega
        obtain ⟨p_36, hp_36⟩ := ptrR S hkp_36
        refine S_v E rfl (R_idx E rfl rfl T62 hp_36 rfl) rfl ?_
        clear E a; intro a E
        obtain ⟨x_37, hx_37⟩ : ∃ x : RG, (t6)[m]? = some x := ⟨_, List.getElem?_eq_getElem hkp_36⟩
        have hbx_37 := hbt _ _ hx_37
        refine S_v E rfl (R_load E rfl (Tryz.isAgg55 _) (cellR S hp_36 hx_37)) rfl ?_
        clear E a; intro a E
        refine S_v E rfl (R_assign E rfl) rfl ?_
        clear E a; intro a E
        refine WL_nil ?_
        refine T_n ?_
        refine WP_region ?_
        refine S_v E rfl (R_move E rfl) rfl ?_
        clear E a; intro a E
        refine S_v E rfl (R_move E rfl) rfl ?_
        clear E a; intro a E
        refine S_x (X_sp (p := [Regs KS x0 u6 t6]) E S rfl rfl rfl (R_Sorted hx_37 (by first | assumption | omega)) (Hp.le.refl _) ?_)
        clear E a S; rintro a u_39 w M_38 _ hM_38 ⟨_, rfl, rfl, hx_40⟩ S E
        replace S : St w M_38 (Regs KS x0 u6 t6 :: OwnC 22 1 u11 ((lsT t6).take m).length xs11 :: OwnC 42 3 u8 an8.length xs8 :: H) := S
        replace h1 := h1.le RSS_mono hM_38
        replace hr8 := hr8.le RAN_mono hM_38
        replace hr11 := hr11.le (RSl_mono RInt_mono) hM_38
        refine S_x (X_buildM (R := RSl 1 RInt) (vs := [u_39]) (xs := [setI x_37.2.2]) (RSl_mono RInt_mono) E S rfl T36 rfl rfl rfl (by intro u hu; simp only [List.mem_cons, List.not_mem_nil, or_false] at hu; rcases hu with rfl <;> first | exact RdI.one hx_40 | rfl) rfl (rowsC (R := RSl 1 RInt) (RdI.row hx_40) rowsN) ?_)
        clear E a S; rintro a v_41 w M_42 hM_42 hv_41 S E
        replace hv_41 : RdII M_42 v_41 [setI x_37.2.2] := hv_41
        replace h1 := h1.le RSS_mono hM_42
        replace hr8 := hr8.le RAN_mono hM_42
        replace hr11 := hr11.le (RSl_mono RInt_mono) hM_42
        replace hx_40 := hx_40.le hM_42
        replace S := S.front1
        refine S_x (X_appendR (R := (RSl 1 RInt)) (zs := (lsT t6).take m) (ys := [setI x_37.2.2]) E S hr11 rfl rfl rfl T36 hv_41 one_RSl (by (first | omega | (simp only [List.length_append, List.length_take, List.length_cons, List.length_nil]; omega))) (by (first | omega | (simp only [List.length_append, List.length_take, List.length_cons, List.length_nil]; omega))) ?_)
        clear E a S; rintro a w v_43 xs_44 E hr_45 S
        refine S_v E rfl (R_assign E rfl) rfl ?_
        clear E a; intro a E
        refine WL_nil ?_
        refine B_n ?_
        refine T_n ?_
        refine WP_region ?_
        refine S_v E rfl (R_addx (m := ((m + 1 : Nat) : Int)) E rfl rfl (by omega) (by omega)) rfl ?_
        clear E a; intro a E
        refine S_v E rfl (R_move E rfl) rfl ?_
        clear E a; intro a E
        refine WL_nil ?_
        refine T_n ?_
        have hre : ((lsT t6).take m) ++ [setI x_37.2.2] = (lsT t6).take (m + 1) := by first | (simp; done) | exact ends_step (play_canon (by assumption)).1 (by assumption)
        replace S := S.reR hre
        replace hr_45 := hr_45.eq hre
        clear hre
        exact ⟨m + 1, ⟨M_42, _, _, (hM_34.trans (hM_38.trans hM_42)), S, E.keep ⟨rfl, rfl, rfl, rfl, rfl, trivial⟩, by ((try clear S); (try clear E); first | assumption | omega | rfl | (simp; done) | (simp_all; done) | (simp [List.take_add_one, *]; done) | grind [List.take_add_one]), hr_45⟩, by omega⟩
      · replace hc_35 := of_decide_eq_false hc_35
        refine WP_exit ?_
        refine T_x ?_
        refine T_x ?_
        refine B_x ?_
        refine T_n ?_
        refine WP_seq ?_
        refine WP_region ?_
        refine S_v E rfl (R_move E rfl) rfl ?_
        clear E a; intro a E
        refine S_v E rfl (R_move E rfl) rfl ?_
        clear E a; intro a E
        refine S_v E rfl (R_assign E rfl) rfl ?_
        clear E a; intro a E
        refine S_v E rfl (R_assign E rfl) rfl ?_
        clear E a; intro a E
        refine WL_nil ?_
        refine T_n ?_
        refine WP_ret ?_
        replace S := S.front2
        have S0 := S; clear S
        obtain ⟨M_46, hM_46, hz_47, S⟩ := S0.freezeR hr8 RAN_mono (by (first | omega | (simp only [List.length_take]; omega)))
        clear S0
        replace h1 := h1.le RSS_mono hM_46
        replace hr11 := hr11.le (RSl_mono RInt_mono) hM_46
        have S0 := S; clear S
        obtain ⟨M_48, hM_48, hz_49, S⟩ := S0.freezeR hr11 (RSl_mono RInt_mono) (by (first | omega | (simp only [List.length_take]; omega)))
        clear S0
        replace hz_49 : RdII M_48 u11 ((lsT t6).take m) := hz_49
        replace h1 := h1.le RSS_mono hM_48
        replace hz_47 := hz_47.le RAN_mono hM_48
        replace S := S.drop
        exact F_ret2 E Tryz.results24 rfl rfl ⟨_, rfl, M_48, _, (hM_1.trans (hM_10.trans (hM_34.trans (hM_46.trans hM_48)))), ⟨_, _, an8, ((lsT t6).take m), rfl, rfl, (by exact hz_47), (by exact hz_49), (by (rw [List.take_of_length_le (l := lsT t6) (by omega)]; have h9 := hpl; rw [List.take_of_length_le (by omega)] at h9; exact h9))⟩, S⟩

set_option maxRecDepth 100000 in
set_option maxHeartbeats 4000000 in
theorem laws_small {M : Hp} {v0 : Value} {l0 : List SSt} (h0 : RdS 6 RSS M v0 l0)  :
    Pu Tryz.prog (.func (.func 25) #[] #[]) M [v0] (fun r M' => r = .bool (decide (l0.length ≤ 200 ∧ ∀ s ∈ l0, s.2.2.2.2.2.length ≤ 100))) := by
  refine Pu_enter Tryz.func25 rfl Tryz.ntmps25 rfl Tryz.call25 ?_
  intro a w M1 H hM1 S E
  replace h0 := h0.le RSS_mono hM1
  have b0 := h0.bound
  refine WP_seq ?_
  refine WP_region ?_
  refine S_v E rfl (R_assign E rfl) rfl ?_
  clear E a; intro a E
  refine WL_nil ?_
  refine T_n ?_
  refine WP_seq ?_
  refine WP_seq ?_
  refine WP_region ?_
  refine S_v E rfl (R_move E rfl) rfl ?_
  clear E a; intro a E
  refine S_v E rfl (R_lenV E rfl T33 h0.len) rfl ?_
  clear E a; intro a E
  refine S_v E rfl (R_move E rfl) rfl ?_
  clear E a; intro a E
  refine WL_nil ?_
  refine T_n ?_
  refine WP_block ?_
  refine WP_loop (γ := Nat) (fun (k : Nat) a w => ∃ (M_1 : Hp), Hp.le M1 M_1 ∧ St w M_1 (H) ∧ Env a 19 [] [(0, v0), (5, v0), (6, .int .i64 (((l0).length : Nat) : Int)), (7, .int .i64 ((k : Nat) : Int))] ∧ (k ≤ (l0).length) ∧ (∀ s ∈ l0.take k, s.2.2.2.2.2.length ≤ 100)) (fun k => ((l0).length) - k) 0 ⟨M1, Hp.le.refl _, S, E.keep ⟨rfl, rfl, rfl, rfl, trivial⟩, by ((try clear S); (try clear E); first | assumption | omega | rfl | (simp; done) | (simp_all; done) | (simp [List.take_add_one, *]; done) | grind [List.take_add_one]), (by simp)⟩ ?_
  try clear E
  try clear S
  try clear a
  try clear w
  rintro k a w ⟨M_1, hM_1, S, E, hL0_0, hL0_1⟩
  replace h0 := h0.le RSS_mono hM_1
  refine WP_seq ?_
  refine WP_region ?_
  refine S_v E rfl (R_lss E rfl rfl) rfl ?_
  clear E a; intro a E
  refine WL_nil ?_
  refine T_n ?_
  refine WP_seq ?_
  refine WP_cond E rfl (fun hc_2 => ?_) (fun hc_2 => ?_)
  · replace hc_2 := of_decide_eq_true hc_2
    refine WP_skip ?_
    refine T_n ?_
    refine WP_seq ?_
    refine WP_block ?_
    refine WP_seq ?_
    refine WP_region ?_
    obtain ⟨x_3, hx_3⟩ : ∃ x, (l0)[k]? = some x := ⟨_, List.getElem?_eq_getElem (by first | omega | (simp; done) | (simp; omega) | (simp_all; omega))⟩
    obtain ⟨p_4, u_5, hp_4, qp_4, hu_5⟩ := RdSS.at h0 hx_3
    have bu_5 := hu_5.bound
    refine S_v E rfl (R_idx E rfl rfl T33 hp_4 rfl) rfl ?_
    clear E a; intro a E
    refine S_v E rfl (R_loadA (cs := [.int .i64 x_3.1, .int .i64 x_3.2.1, .int .i64 x_3.2.2.1, .int .i64 x_3.2.2.2.1, .int .i64 x_3.2.2.2.2.1, u_5]) E rfl (Tryz.isAgg40 _) (Tryz.sizeOf40 _) S.imm qp_4) rfl ?_
    clear E a; intro a E
    refine S_x (X_alloc (cs := #[.int .i64 0, .int .i64 0, .int .i64 0, .int .i64 0, .int .i64 0, .slice none 0 0]) E S rfl Tryz.zeroValue40 rfl ?_)
    clear E a S; rintro a w b_6 E S
    refine S_x0 (X_storeG (us := [.int .i64 x_3.1, .int .i64 x_3.2.1, .int .i64 x_3.2.2.1, .int .i64 x_3.2.2.2.1, .int .i64 x_3.2.2.2.2.1, u_5]) E S rfl rfl (Tryz.sizeOf40 _) rfl (by intro u hu; simp only [List.mem_cons, List.not_mem_nil, or_false] at hu; rcases hu with rfl | rfl | rfl | rfl | rfl | rfl <;> first | exact rfl | exact rfl | exact rfl | exact rfl | exact rfl | exact (RdS.one' hu_5)) ?_)
    clear E a S; rintro a w E S
    replace S : St w M_1 (blk b_6 (.cells #[.int .i64 x_3.1, .int .i64 x_3.2.1, .int .i64 x_3.2.2.1, .int .i64 x_3.2.2.2.1, .int .i64 x_3.2.2.2.2.1, u_5] 40) :: _) := S
    have S0 := S; clear S
    obtain ⟨M_7, hM_7, hb_8, S⟩ := S0.freezeB
    clear S0
    replace h0 := h0.le RSS_mono hM_7
    replace hu_5 := hu_5.le hM_7
    refine WL_nil ?_
    refine T_n ?_
    refine WP_seq ?_
    refine WP_region ?_
    refine S_v E rfl (R_fieldAddr E rfl (FA40_5 _)) rfl ?_
    clear E a; intro a E
    refine S_v E rfl (R_loadM E rfl Tryz.isAgg22 S.imm (cellM_boxo hb_8 rfl)) rfl ?_
    clear E a; intro a E
    refine S_v E rfl (R_lenV E rfl T22 hu_5.len) rfl ?_
    clear E a; intro a E
    refine S_v E rfl (R_gtr E rfl rfl) rfl ?_
    clear E a; intro a E
    refine WL_nil ?_
    refine T_n ?_
    refine WP_cond E rfl (fun hc_9 => ?_) (fun hc_9 => ?_)
    · replace hc_9 := of_decide_eq_true hc_9
      refine WP_seq ?_
      refine WP_region ?_
      refine S_v E rfl (R_assign E rfl) rfl ?_
      clear E a; intro a E
      refine WL_nil ?_
      refine T_n ?_
      refine WP_ret ?_
      refine B_r ?_
      refine T_r ?_
      refine T_r ?_
      refine B_r ?_
      refine T_r ?_
      exact F_ret1 E Tryz.results25 rfl ⟨_, rfl, M_7, (hM_1.trans hM_7), (bF (by (intro h9; have h8 := h9.2 _ (List.mem_of_getElem? (by assumption)); omega))), S⟩
    · replace hc_9 := of_decide_eq_false hc_9
      refine WP_skip ?_
      refine B_n ?_
      refine T_n ?_
      refine WP_region ?_
      refine S_v E rfl (R_addx (m := ((k + 1 : Nat) : Int)) E rfl rfl (by omega) (by omega)) rfl ?_
      clear E a; intro a E
      refine S_v E rfl (R_move E rfl) rfl ?_
      clear E a; intro a E
      refine WL_nil ?_
      refine T_n ?_
      exact ⟨k + 1, ⟨M_7, (hM_1.trans hM_7), S, E.keep ⟨rfl, rfl, rfl, rfl, trivial⟩, by ((try clear S); (try clear E); first | assumption | omega | rfl | (simp; done) | (simp_all; done) | (simp [List.take_add_one, *]; done) | grind [List.take_add_one]), (by refine tkA (by assumption) (by assumption) ?_; omega)⟩, by omega⟩
  · replace hc_2 := of_decide_eq_false hc_2
    refine WP_exit ?_
    refine T_x ?_
    refine T_x ?_
    refine B_x ?_
    refine T_n ?_
    refine WP_seq ?_
    refine WP_region ?_
    refine S_v E rfl (R_move E rfl) rfl ?_
    clear E a; intro a E
    refine S_v E rfl (R_lenV E rfl T33 h0.len) rfl ?_
    clear E a; intro a E
    refine S_v E rfl (R_leq E rfl rfl) rfl ?_
    clear E a; intro a E
    refine S_v E rfl (R_assign E rfl) rfl ?_
    clear E a; intro a E
    refine WL_nil ?_
    refine T_n ?_
    refine WP_ret ?_
    exact F_ret1 E Tryz.results25 rfl ⟨_, rfl, M_1, hM_1, (congrArg Value.bool (by (refine decide_eq_decide.2 ⟨fun h => ⟨by omega, ?_⟩, fun h => by omega⟩; exact tkE (by assumption) (by omega)))), S⟩

set_option maxRecDepth 100000 in
set_option maxHeartbeats 4000000 in
theorem laws_eq {M : Hp} {v0 v1 : Value} {l0 l1 : List Int} (h0 : RdI M v0 l0) (h1 : RdI M v1 l1) :
    Pu Tryz.prog (.func (.func 19) #[] #[]) M [v0, v1] (fun r M' => r = .bool (decide (l0 = l1))) := by
  refine Pu_enter Tryz.func19 rfl Tryz.ntmps19 rfl Tryz.call19 ?_
  intro a w M1 H hM1 S E
  replace h0 := h0.le hM1
  replace h1 := h1.le hM1
  have b0 := h0.bound
  have b1 := h1.bound
  refine WP_seq ?_
  refine WP_region ?_
  refine S_v E rfl (R_assign E rfl) rfl ?_
  clear E a; intro a E
  refine WL_nil ?_
  refine T_n ?_
  refine WP_seq ?_
  refine WP_seq ?_
  refine WP_region ?_
  refine S_v E rfl (R_move E rfl) rfl ?_
  clear E a; intro a E
  refine S_v E rfl (R_lenV E rfl T22 h0.len) rfl ?_
  clear E a; intro a E
  refine S_v E rfl (R_move E rfl) rfl ?_
  clear E a; intro a E
  refine S_v E rfl (R_lenV E rfl T22 h1.len) rfl ?_
  clear E a; intro a E
  refine S_v E rfl (R_neq E rfl rfl) rfl ?_
  clear E a; intro a E
  refine WL_nil ?_
  refine T_n ?_
  refine WP_cond E rfl (fun hc_1 => ?_) (fun hc_1 => ?_)
  · replace hc_1 := of_decide_eq_true hc_1
    refine WP_seq ?_
    refine WP_region ?_
    refine S_v E rfl (R_assign E rfl) rfl ?_
    clear E a; intro a E
    refine WL_nil ?_
    refine T_n ?_
    refine WP_ret ?_
    refine T_r ?_
    exact F_ret1 E Tryz.results19 rfl ⟨_, rfl, M1, (Hp.le.refl _), (bF (by ((try clear S); (try clear E); first | assumption | omega | rfl | (simp; done) | (simp_all; done) | (simp [List.take_add_one, *]; done) | grind [List.take_add_one]))), S⟩
  · replace hc_1 := of_decide_eq_false hc_1
    refine WP_skip ?_
    refine T_n ?_
    refine WP_seq ?_
    refine WP_seq ?_
    refine WP_region ?_
    refine S_v E rfl (R_move E rfl) rfl ?_
    clear E a; intro a E
    refine S_v E rfl (R_lenV E rfl T22 h0.len) rfl ?_
    clear E a; intro a E
    refine S_v E rfl (R_move E rfl) rfl ?_
    clear E a; intro a E
    refine WL_nil ?_
    refine T_n ?_
    refine WP_block ?_
    refine WP_loop (γ := Nat) (fun (k : Nat) a w => ∃ (M_2 : Hp), Hp.le M1 M_2 ∧ St w M_2 (H) ∧ Env a 26 [] [(0, v0), (1, v1), (12, .int .i64 (((l0).length : Nat) : Int)), (13, .int .i64 ((k : Nat) : Int))] ∧ (k ≤ (l0).length) ∧ (l0.length = l1.length) ∧ (l0.take k = l1.take k)) (fun k => ((l0).length) - k) 0 ⟨M1, Hp.le.refl _, S, E.keep ⟨rfl, rfl, rfl, rfl, trivial⟩, by ((try clear S); (try clear E); first | assumption | omega | rfl | (simp; done) | (simp_all; done) | (simp [List.take_add_one, *]; done) | grind [List.take_add_one]), by ((try clear S); (try clear E); first | assumption | omega | rfl | (simp; done) | (simp_all; done) | (simp [List.take_add_one, *]; done) | grind [List.take_add_one]), by ((try clear S); (try clear E); first | assumption | omega | rfl | (simp; done) | (simp_all; done) | (simp [List.take_add_one, *]; done) | grind [List.take_add_one])⟩ ?_
    try clear E
    try clear S
    try clear a
    try clear w
    rintro k a w ⟨M_2, hM_2, S, E, hL0_0, hL0_1, hL0_2⟩
    replace h0 := h0.le hM_2
    replace h1 := h1.le hM_2
    refine WP_seq ?_
    refine WP_region ?_
    refine S_v E rfl (R_lss E rfl rfl) rfl ?_
    clear E a; intro a E
    refine WL_nil ?_
    refine T_n ?_
    refine WP_seq ?_
    refine WP_cond E rfl (fun hc_3 => ?_) (fun hc_3 => ?_)
    · replace hc_3 := of_decide_eq_true hc_3
      refine WP_skip ?_
      refine T_n ?_
      refine WP_seq ?_
      refine WP_block ?_
      refine WP_seq ?_
      refine WP_region ?_
      refine S_v E rfl (R_move E rfl) rfl ?_
      clear E a; intro a E
      refine S_v E rfl (R_assign E rfl) rfl ?_
      clear E a; intro a E
      refine WL_nil ?_
      refine T_n ?_
      refine WP_seq ?_
      replace S := S.mono_heap (w' := World.drew _) rfl
      refine WP_drawn (C := fun x w => agree M_2 w) (bf := (fun i => [])) [0, 1, 2, 3, 4, 5, 6, 7, 8] [0, 1, 2, 3, 4, 5, 6, 7, 8] Tryz.mixed (by kernel_rfl) (fun x hq => S.imm) ?_
      refine D_v E rfl rfl rfl (fun w hC => (R_move E rfl)) ?_
      clear E a; intro a E
      refine D_v E rfl rfl rfl (fun w hC => (R_move E rfl)) ?_
      clear E a; intro a E
      obtain ⟨x_4, hx_4⟩ : ∃ x, (l0)[k]? = some x := ⟨_, List.getElem?_eq_getElem (by first | omega | (simp; done) | (simp; omega) | (simp_all; omega))⟩
      obtain ⟨p_5, hp_5, qp_5⟩ := h0.at hx_4
      refine D_v E rfl rfl rfl (fun w hC => (R_idx E rfl rfl T22 hp_5 rfl)) ?_
      clear E a; intro a E
      refine D_v E rfl rfl rfl (fun w hC => (R_loadM E rfl Tryz.isAgg3 hC qp_5)) ?_
      clear E a; intro a E
      refine D_v E rfl rfl rfl (fun w hC => (R_move E rfl)) ?_
      clear E a; intro a E
      refine D_v E rfl rfl rfl (fun w hC => (R_move E rfl)) ?_
      clear E a; intro a E
      obtain ⟨x_6, hx_6⟩ : ∃ x, (l1)[k]? = some x := ⟨_, List.getElem?_eq_getElem (by first | omega | (simp; done) | (simp; omega) | (simp_all; omega))⟩
      obtain ⟨p_7, hp_7, qp_7⟩ := h1.at hx_6
      refine D_v E rfl rfl rfl (fun w hC => (R_idx E rfl rfl T22 hp_7 rfl)) ?_
      clear E a; intro a E
      refine D_v E rfl rfl rfl (fun w hC => (R_loadM E rfl Tryz.isAgg3 hC qp_7)) ?_
      clear E a; intro a E
      refine D_v E rfl rfl rfl (fun w hC => (R_neq E rfl rfl)) ?_
      clear E a; intro a E
      refine D_end (NoP_n ?_)
      refine T_n ?_
      refine WP_cond E rfl (fun hc_8 => ?_) (fun hc_8 => ?_)
      · replace hc_8 := of_decide_eq_true hc_8
        refine WP_seq ?_
        refine WP_region ?_
        refine S_v E rfl (R_assign E rfl) rfl ?_
        clear E a; intro a E
        refine WL_nil ?_
        refine T_n ?_
        refine WP_ret ?_
        refine B_r ?_
        refine T_r ?_
        refine T_r ?_
        refine B_r ?_
        refine T_r ?_
        exact F_ret1 E Tryz.results19 rfl ⟨_, rfl, M_2, hM_2, (bF (by ((try clear S); (try clear E); first | assumption | omega | rfl | (simp; done) | (simp_all; done) | (simp [List.take_add_one, *]; done) | grind [List.take_add_one]))), S⟩
      · replace hc_8 := of_decide_eq_false hc_8
        refine WP_skip ?_
        refine B_n ?_
        refine T_n ?_
        refine WP_region ?_
        refine S_v E rfl (R_addx (m := ((k + 1 : Nat) : Int)) E rfl rfl (by omega) (by omega)) rfl ?_
        clear E a; intro a E
        refine S_v E rfl (R_move E rfl) rfl ?_
        clear E a; intro a E
        refine WL_nil ?_
        refine T_n ?_
        exact ⟨k + 1, ⟨M_2, hM_2, S, E.keep ⟨rfl, rfl, rfl, rfl, trivial⟩, by ((try clear S); (try clear E); first | assumption | omega | rfl | (simp; done) | (simp_all; done) | (simp [List.take_add_one, *]; done) | grind [List.take_add_one]), by ((try clear S); (try clear E); first | assumption | omega | rfl | (simp; done) | (simp_all; done) | (simp [List.take_add_one, *]; done) | grind [List.take_add_one]), by ((try clear S); (try clear E); first | assumption | omega | rfl | (simp; done) | (simp_all; done) | (simp [List.take_add_one, *]; done) | grind [List.take_add_one])⟩, by omega⟩
    · replace hc_3 := of_decide_eq_false hc_3
      refine WP_exit ?_
      refine T_x ?_
      refine T_x ?_
      refine B_x ?_
      refine T_n ?_
      refine WP_seq ?_
      refine WP_region ?_
      refine S_v E rfl (R_assign E rfl) rfl ?_
      clear E a; intro a E
      refine WL_nil ?_
      refine T_n ?_
      refine WP_ret ?_
      exact F_ret1 E Tryz.results19 rfl ⟨_, rfl, M_2, hM_2, (bT (by ((try clear S); (try clear E); first | assumption | omega | rfl | (simp; done) | (simp_all; done) | (simp [List.take_add_one, *]; done) | grind [List.take_add_one]))), S⟩

set_option maxRecDepth 100000 in
set_option maxHeartbeats 4000000 in
theorem laws_eqLists {M : Hp} {v0 v1 : Value} {l0 l1 : List (List Int)} (h0 : RdII M v0 l0) (h1 : RdII M v1 l1) :
    Pu Tryz.prog (.func (.func 26) #[] #[]) M [v0, v1] (fun r M' => r = .bool (decide (l0 = l1))) := by
  refine Pu_enter Tryz.func26 rfl Tryz.ntmps26 rfl Tryz.call26 ?_
  intro a w M1 H hM1 S E
  replace h0 := h0.le hM1
  replace h1 := h1.le hM1
  have b0 := h0.bound
  have b1 := h1.bound
  refine WP_seq ?_
  refine WP_region ?_
  refine S_v E rfl (R_assign E rfl) rfl ?_
  clear E a; intro a E
  refine WL_nil ?_
  refine T_n ?_
  refine WP_seq ?_
  refine WP_seq ?_
  refine WP_region ?_
  refine S_v E rfl (R_move E rfl) rfl ?_
  clear E a; intro a E
  refine S_v E rfl (R_lenV E rfl T36 h0.len) rfl ?_
  clear E a; intro a E
  refine S_v E rfl (R_move E rfl) rfl ?_
  clear E a; intro a E
  refine S_v E rfl (R_lenV E rfl T36 h1.len) rfl ?_
  clear E a; intro a E
  refine S_v E rfl (R_neq E rfl rfl) rfl ?_
  clear E a; intro a E
  refine WL_nil ?_
  refine T_n ?_
  refine WP_cond E rfl (fun hc_1 => ?_) (fun hc_1 => ?_)
  · replace hc_1 := of_decide_eq_true hc_1
    refine WP_seq ?_
    refine WP_region ?_
    refine S_v E rfl (R_assign E rfl) rfl ?_
    clear E a; intro a E
    refine WL_nil ?_
    refine T_n ?_
    refine WP_ret ?_
    refine T_r ?_
    exact F_ret1 E Tryz.results26 rfl ⟨_, rfl, M1, (Hp.le.refl _), (bF (by (first | (simp; done) | exact eqp_no (by assumption) (by assumption) (by first | assumption | simp_all) | (have h9 : l0.take k = l1.take k := (by assumption); rwa [List.take_of_length_le (by omega), List.take_of_length_le (by omega)] at h9) | (intro h9; subst h9; omega) | (intro h9; subst h9; simp_all; done)))), S⟩
  · replace hc_1 := of_decide_eq_false hc_1
    refine WP_skip ?_
    refine T_n ?_
    refine WP_seq ?_
    refine WP_seq ?_
    refine WP_region ?_
    refine S_v E rfl (R_move E rfl) rfl ?_
    clear E a; intro a E
    refine S_v E rfl (R_lenV E rfl T36 h0.len) rfl ?_
    clear E a; intro a E
    refine S_v E rfl (R_move E rfl) rfl ?_
    clear E a; intro a E
    refine WL_nil ?_
    refine T_n ?_
    refine WP_block ?_
    refine WP_loop (γ := Nat) (fun (k : Nat) a w => ∃ (M_2 : Hp), Hp.le M1 M_2 ∧ St w M_2 (H) ∧ Env a 27 [] [(0, v0), (1, v1), (12, .int .i64 (((l0).length : Nat) : Int)), (13, .int .i64 ((k : Nat) : Int))] ∧ (k ≤ (l0).length) ∧ (l0.length = l1.length) ∧ (l0.take k = l1.take k)) (fun k => ((l0).length) - k) 0 ⟨M1, Hp.le.refl _, S, E.keep ⟨rfl, rfl, rfl, rfl, trivial⟩, by ((try clear S); (try clear E); first | assumption | omega | rfl | (simp; done) | (simp_all; done) | (simp [List.take_add_one, *]; done) | grind [List.take_add_one]), by ((try clear S); (try clear E); first | assumption | omega | rfl | (simp; done) | (simp_all; done) | (simp [List.take_add_one, *]; done) | grind [List.take_add_one]), by ((try clear S); (try clear E); first | assumption | omega | rfl | (simp; done) | (simp_all; done) | (simp [List.take_add_one, *]; done) | grind [List.take_add_one])⟩ ?_
    try clear E
    try clear S
    try clear a
    try clear w
    rintro k a w ⟨M_2, hM_2, S, E, hL0_0, hL0_1, hL0_2⟩
    replace h0 := h0.le hM_2
    replace h1 := h1.le hM_2
    refine WP_seq ?_
    refine WP_region ?_
    refine S_v E rfl (R_lss E rfl rfl) rfl ?_
    clear E a; intro a E
    refine WL_nil ?_
    refine T_n ?_
    refine WP_seq ?_
    refine WP_cond E rfl (fun hc_3 => ?_) (fun hc_3 => ?_)
    · replace hc_3 := of_decide_eq_true hc_3
      refine WP_skip ?_
      refine T_n ?_
      refine WP_seq ?_
      refine WP_block ?_
      refine WP_seq ?_
      refine WP_region ?_
      refine S_v E rfl (R_move E rfl) rfl ?_
      clear E a; intro a E
      refine S_v E rfl (R_assign E rfl) rfl ?_
      clear E a; intro a E
      refine WL_nil ?_
      refine T_n ?_
      refine WP_seq ?_
      replace S := S.mono_heap (w' := World.drew _) rfl
      refine WP_drawn (C := fun x w => agree M_2 w) (bf := (fun i => [])) [0, 1, 2, 3, 4, 5, 6, 7, 9] [0, 1, 2, 3, 4, 5, 6, 7, 8, 9] Tryz.mixed (by kernel_rfl) (fun x hq => S.imm) ?_
      refine D_v E rfl rfl rfl (fun w hC => (R_move E rfl)) ?_
      clear E a; intro a E
      refine D_v E rfl rfl rfl (fun w hC => (R_move E rfl)) ?_
      clear E a; intro a E
      obtain ⟨x_4, hx_4⟩ : ∃ x, (l0)[k]? = some x := ⟨_, List.getElem?_eq_getElem (by first | omega | (simp; done) | (simp; omega) | (simp_all; omega))⟩
      obtain ⟨p_5, u_6, hp_5, qp_5, hu_6⟩ := h0.at hx_4
      have bu_6 := hu_6.bound
      refine D_v E rfl rfl rfl (fun w hC => (R_idx E rfl rfl T36 hp_5 rfl)) ?_
      clear E a; intro a E
      refine D_v E rfl rfl rfl (fun w hC => (R_loadM E rfl Tryz.isAgg22 hC qp_5)) ?_
      clear E a; intro a E
      refine D_v E rfl rfl rfl (fun w hC => (R_move E rfl)) ?_
      clear E a; intro a E
      refine D_v E rfl rfl rfl (fun w hC => (R_move E rfl)) ?_
      clear E a; intro a E
      obtain ⟨x_7, hx_7⟩ : ∃ x, (l1)[k]? = some x := ⟨_, List.getElem?_eq_getElem (by first | omega | (simp; done) | (simp; omega) | (simp_all; omega))⟩
      obtain ⟨p_8, u_9, hp_8, qp_8, hu_9⟩ := h1.at hx_7
      have bu_9 := hu_9.bound
      refine D_v E rfl rfl rfl (fun w hC => (R_idx E rfl rfl T36 hp_8 rfl)) ?_
      clear E a; intro a E
      refine D_v E rfl rfl rfl (fun w hC => (R_loadM E rfl Tryz.isAgg22 hC qp_8)) ?_
      clear E a; intro a E
      refine D_x rfl rfl rfl (X_pu E S rfl rfl rfl (laws_eq hu_6 hu_9) (Hp.le.refl _) ?_)
      clear E a S; rintro a _ w M_10 hM_10 rfl S E
      replace h0 := h0.le hM_10
      replace h1 := h1.le hM_10
      replace hu_6 := hu_6.le hM_10
      replace hu_9 := hu_9.le hM_10
      refine ⟨fun x hq hb => (agree_le hM_10 S.imm), ?_⟩
      refine D_v E rfl rfl rfl (fun w hC => (R_not E rfl)) ?_
      clear E a; intro a E
      refine D_end (NoP_n ?_)
      refine T_n ?_
      refine WP_cond E rfl (fun hc_11 => ?_) (fun hc_11 => ?_)
      · refine WP_seq ?_
        refine WP_region ?_
        refine S_v E rfl (R_assign E rfl) rfl ?_
        clear E a; intro a E
        refine WL_nil ?_
        refine T_n ?_
        refine WP_ret ?_
        refine B_r ?_
        refine T_r ?_
        refine T_r ?_
        refine B_r ?_
        refine T_r ?_
        exact F_ret1 E Tryz.results26 rfl ⟨_, rfl, M_10, (hM_2.trans hM_10), (bF (by (first | (simp; done) | exact eqp_no (by assumption) (by assumption) (by first | assumption | simp_all) | (have h9 : l0.take k = l1.take k := (by assumption); rwa [List.take_of_length_le (by omega), List.take_of_length_le (by omega)] at h9) | (intro h9; subst h9; omega) | (intro h9; subst h9; simp_all; done)))), S⟩
      · refine WP_skip ?_
        refine B_n ?_
        refine T_n ?_
        refine WP_region ?_
        refine S_v E rfl (R_addx (m := ((k + 1 : Nat) : Int)) E rfl rfl (by omega) (by omega)) rfl ?_
        clear E a; intro a E
        refine S_v E rfl (R_move E rfl) rfl ?_
        clear E a; intro a E
        refine WL_nil ?_
        refine T_n ?_
        exact ⟨k + 1, ⟨M_10, (hM_2.trans hM_10), S, E.keep ⟨rfl, rfl, rfl, rfl, trivial⟩, by ((try clear S); (try clear E); first | assumption | omega | rfl | (simp; done) | (simp_all; done) | (simp [List.take_add_one, *]; done) | grind [List.take_add_one]), by ((try clear S); (try clear E); first | assumption | omega | rfl | (simp; done) | (simp_all; done) | (simp [List.take_add_one, *]; done) | grind [List.take_add_one]), (by exact eqp_step (by assumption) (by assumption) (by assumption) (by first | assumption | simp_all))⟩, by omega⟩
    · replace hc_3 := of_decide_eq_false hc_3
      refine WP_exit ?_
      refine T_x ?_
      refine T_x ?_
      refine B_x ?_
      refine T_n ?_
      refine WP_seq ?_
      refine WP_region ?_
      refine S_v E rfl (R_assign E rfl) rfl ?_
      clear E a; intro a E
      refine WL_nil ?_
      refine T_n ?_
      refine WP_ret ?_
      exact F_ret1 E Tryz.results26 rfl ⟨_, rfl, M_2, hM_2, (bT (by (first | (simp; done) | exact eqp_no (by assumption) (by assumption) (by first | assumption | simp_all) | (have h9 : l0.take k = l1.take k := (by assumption); rwa [List.take_of_length_le (by omega), List.take_of_length_le (by omega)] at h9) | (intro h9; subst h9; omega) | (intro h9; subst h9; simp_all; done)))), S⟩

set_option maxRecDepth 100000 in
set_option maxHeartbeats 4000000 in
theorem laws_FnSetKinds {M : Hp} {v0 : Value} {l0 : List SSt} (h0 : RdS 6 RSS M v0 l0)  :
    PuC Tryz.prog 5 M [v0] (fun r M' => r = .bool true) := by
  refine PuC_enter Tryz.func5 rfl Tryz.ntmps5 rfl ?_
  intro a w M1 H hM1 S E
  replace h0 := h0.le RSS_mono hM1
  have b0 := h0.bound
  refine WP_seq ?_
  refine WP_region ?_
  refine S_v E rfl (R_assign E rfl) rfl ?_
  clear E a; intro a E
  refine WL_nil ?_
  refine T_n ?_
  refine WP_seq ?_
  refine WP_seq ?_
  refine WP_region ?_
  refine S_v E rfl (R_move E rfl) rfl ?_
  clear E a; intro a E
  refine S_x (X_pu E S rfl rfl rfl (laws_zzFits5 h0) (Hp.le.refl _) ?_)
  clear E a S; rintro a _ w M_1 hM_1 rfl S E
  replace h0 := h0.le RSS_mono hM_1
  refine S_v E rfl (R_not E rfl) rfl ?_
  clear E a; intro a E
  refine WL_nil ?_
  refine T_n ?_
  refine WP_cond E rfl (fun hc_2 => ?_) (fun hc_2 => ?_)
  · refine WP_seq ?_
    refine WP_region ?_
    refine S_v E rfl (R_assign E rfl) rfl ?_
    clear E a; intro a E
    refine WL_nil ?_
    refine T_n ?_
    refine WP_ret ?_
    refine T_r ?_
    exact F_ret1 E Tryz.results5 rfl ⟨_, rfl, M_1, hM_1, rfl, S⟩
  · refine WP_skip ?_
    refine T_n ?_
    refine WP_seq ?_
    refine WP_seq ?_
    refine WP_region ?_
    refine S_v E rfl (R_build (u := .agg #[.int .i64 1, .int .i64 0, .int .i64 0, .int .i64 0, .int .i64 5, .slice none 0 0]) (vs := [.int .i64 1, .int .i64 5]) E rfl (fun w => FB40_0_4_ii 1 5 w)) rfl ?_
    clear E a; intro a E
    refine S_x (X_buildA1 (R := RSS) (cs := [.int .i64 1, .int .i64 0, .int .i64 0, .int .i64 0, .int .i64 5, (.slice none 0 0)]) (x0 := (1, 0, 0, 0, 5, ([] : List Int))) RSS_mono E S rfl T33 rfl rfl rfl ⟨_, rfl, (RdS.nil _)⟩ ?_)
    clear E a S; rintro a v_3 w M_4 hM_4 hv_3 S E
    replace h0 := h0.le RSS_mono hM_4
    refine S_x (X_sp (p := []) E S rfl rfl rfl (impl_SetScript hv_3 (by first | assumption | (simp; done) | omega) (by first | assumption | (intro s hs; simp only [List.mem_cons, List.not_mem_nil, or_false] at hs; subst hs; simp; done) | (intro s hs; have h9 := (by assumption : ∀ s ∈ _, List.length (Prod.snd (Prod.snd (Prod.snd (Prod.snd (Prod.snd s))))) ≤ 100) s hs; omega))) (Hp.le.refl _) ?_)
    clear E a S; rintro a _ w M_5 _ hM_5 ⟨u_6, w_7, an_8, ls_9, rfl, rfl, hx_10, hx_11, hp1⟩ S E
    replace S : St w M_5 (H) := S
    replace h0 := h0.le RSS_mono hM_5
    replace hv_3 := hv_3.le RSS_mono hM_5
    refine S_v E rfl (R_move E rfl) rfl ?_
    clear E a; intro a E
    refine S_v E rfl (R_extract E rfl rfl) rfl ?_
    clear E a; intro a E
    refine S_v E rfl (R_extract E rfl rfl) rfl ?_
    clear E a; intro a E
    refine S_v E rfl (R_assign E rfl) rfl ?_
    clear E a; intro a E
    refine S_v E rfl (R_assign E rfl) rfl ?_
    clear E a; intro a E
    refine WL_nil ?_
    refine T_n ?_
    refine WP_seq ?_
    refine WP_region ?_
    refine S_v E rfl (R_move E rfl) rfl ?_
    clear E a; intro a E
    refine S_v E rfl (R_lenV E rfl T35 hx_10.len) rfl ?_
    clear E a; intro a E
    have hp1l := play_one hp1
    refine S_v E rfl (R_eql E rfl rfl) rfl ?_
    clear E a; intro a E
    refine S_v E rfl (R_move E rfl) rfl ?_
    clear E a; intro a E
    have hc_12 : (decide ((((an_8).length : Nat) : Int) = 0)) = false := by (clear S E; first | exact one_is hp1l.1 (by assumption) | (obtain ⟨e1, e2⟩ := hdet; subst e1; subst e2; simp_all; done) | (obtain ⟨e1, e2⟩ := play_one hp1; subst e1; subst e2; simp_all; done))
    replace E := E.val (t := 23) rfl hc_12
    replace E := E.val (t := 24) rfl hc_12
    refine WL_guard_yes E rfl rfl ?_
    refine S_v E rfl (R_move E rfl) rfl ?_
    clear E a; intro a E
    obtain ⟨x_13, hx_13⟩ : ∃ x, (an_8)[0]? = some x := ⟨_, List.getElem?_eq_getElem (by (first | omega | (rw [hp1l.1]; decide) | (rw [← hdet.1]; omega)))⟩
    obtain ⟨p_14, u_15, hp_14, qp_14, hu_15⟩ := RdAN.at hx_10 hx_13
    have bu_15 := hu_15.bound
    refine WL_guard_yes E rfl rfl ?_
    refine S_v E rfl (R_idx E rfl rfl T35 hp_14 (by omega)) rfl ?_
    clear E a; intro a E
    have qf_16 := qp_14 0 _ rfl
    refine WL_guard_yes E rfl rfl ?_
    refine S_v E rfl (R_fieldAddr E rfl (FA42_0 _)) rfl ?_
    clear E a; intro a E
    refine WL_guard_yes E rfl rfl ?_
    refine S_v E rfl (R_loadM E rfl Tryz.isAgg4 S.imm qf_16) rfl ?_
    clear E a; intro a E
    refine WL_guard_yes E rfl rfl ?_
    refine S_v E rfl (R_not E rfl) rfl ?_
    clear E a; intro a E
    refine S_v E rfl (R_pickF E rfl rfl) rfl ?_
    clear E a; intro a E
    refine S_v E rfl (R_move E rfl) rfl ?_
    clear E a; intro a E
    have hc_17 : (!x_13.1) = false := by (clear S E; first | exact one_is hp1l.1 (by assumption) | (obtain ⟨e1, e2⟩ := hdet; subst e1; subst e2; simp_all; done) | (obtain ⟨e1, e2⟩ := play_one hp1; subst e1; subst e2; simp_all; done))
    replace E := E.val (t := 29) rfl hc_17
    replace E := E.val (t := 30) rfl hc_17
    replace E := E.val (t := 31) rfl hc_17
    refine WL_guard_yes E rfl rfl ?_
    refine S_v E rfl (R_move E rfl) rfl ?_
    clear E a; intro a E
    refine WL_guard_yes E rfl rfl ?_
    refine S_v E rfl (R_lenV E rfl T36 hx_11.len) rfl ?_
    clear E a; intro a E
    have hp1l := play_one hp1
    refine WL_guard_yes E rfl rfl ?_
    refine S_v E rfl (R_eql E rfl rfl) rfl ?_
    clear E a; intro a E
    refine S_v E rfl (R_pickF E rfl rfl) rfl ?_
    clear E a; intro a E
    refine WL_nil ?_
    refine T_n ?_
    have hc_18 : (decide ((((ls_9).length : Nat) : Int) = 0)) = false := by (clear S E; first | exact one_is hp1l.1 (by assumption) | (obtain ⟨e1, e2⟩ := hdet; subst e1; subst e2; simp_all; done) | (obtain ⟨e1, e2⟩ := play_one hp1; subst e1; subst e2; simp_all; done))
    refine WP_condF E rfl hc_18 ?_
    refine WP_skip ?_
    refine T_n ?_
    refine WP_seq ?_
    refine WP_seq ?_
    refine WP_region ?_
    refine S_v E rfl (R_move E rfl) rfl ?_
    clear E a; intro a E
    refine S_x (X_pu E S rfl rfl rfl (laws_small h0) (Hp.le.refl _) ?_)
    clear E a S; rintro a _ w M_19 hM_19 rfl S E
    replace h0 := h0.le RSS_mono hM_19
    replace hv_3 := hv_3.le RSS_mono hM_19
    replace hx_10 := hx_10.le RAN_mono hM_19
    replace hx_11 := hx_11.le hM_19
    replace hu_15 := hu_15.le hM_19
    replace qp_14 := cellsM_le hM_19 qp_14
    refine S_v E rfl (R_not E rfl) rfl ?_
    clear E a; intro a E
    refine WL_nil ?_
    refine T_n ?_
    refine WP_cond E rfl (fun hc_20 => ?_) (fun hc_20 => ?_)
    · refine WP_seq ?_
      refine WP_region ?_
      refine S_v E rfl (R_assign E rfl) rfl ?_
      clear E a; intro a E
      refine WL_nil ?_
      refine T_n ?_
      refine WP_ret ?_
      refine T_r ?_
      exact F_ret1 E Tryz.results5 rfl ⟨_, rfl, M_19, (hM_1.trans (hM_4.trans (hM_5.trans hM_19))), rfl, S⟩
    · have hsm := nd (p := l0.length ≤ 200 ∧ ∀ s ∈ l0, s.2.2.2.2.2.length ≤ 100) (by assumption)
      obtain ⟨hsm1, hsm2⟩ := hsm
      refine WP_skip ?_
      refine T_n ?_
      refine WP_seq ?_
      refine WP_seq ?_
      refine WP_region ?_
      refine S_v E rfl (R_move E rfl) rfl ?_
      clear E a; intro a E
      refine S_v E rfl (R_lenV E rfl T33 h0.len) rfl ?_
      clear E a; intro a E
      refine S_v E rfl (R_move E rfl) rfl ?_
      clear E a; intro a E
      refine WL_nil ?_
      refine T_n ?_
      refine WP_block ?_
      refine WP_loop (γ := Nat) (fun (k : Nat) a w => ∃ (M_21 : Hp), Hp.le M_19 M_21 ∧ St w M_21 (H) ∧ Env a 119 [] [(0, v0), (39, v0), (40, .int .i64 (((l0).length : Nat) : Int)), (41, .int .i64 ((k : Nat) : Int))] ∧ (k ≤ (l0).length) ∧ (∀ s ∈ l0.take k, ¬ s.1 = 24 ∧ ¬ s.1 = 25)) (fun k => ((l0).length) - k) 0 ⟨M_19, Hp.le.refl _, S, E.keep ⟨rfl, rfl, rfl, rfl, trivial⟩, by ((try clear S); (try clear E); first | assumption | omega | rfl | (simp; done) | (simp_all; done) | (simp [List.take_add_one, *]; done) | grind [List.take_add_one]), (by simp)⟩ ?_
      try clear E
      try clear S
      try clear a
      try clear w
      rintro k a w ⟨M_21, hM_21, S, E, hL0_0, hL0_1⟩
      replace h0 := h0.le RSS_mono hM_21
      replace hv_3 := hv_3.le RSS_mono hM_21
      replace hx_10 := hx_10.le RAN_mono hM_21
      replace hx_11 := hx_11.le hM_21
      replace hu_15 := hu_15.le hM_21
      replace qp_14 := cellsM_le hM_21 qp_14
      refine WP_seq ?_
      refine WP_region ?_
      refine S_v E rfl (R_lss E rfl rfl) rfl ?_
      clear E a; intro a E
      refine WL_nil ?_
      refine T_n ?_
      refine WP_seq ?_
      refine WP_cond E rfl (fun hc_22 => ?_) (fun hc_22 => ?_)
      · replace hc_22 := of_decide_eq_true hc_22
        refine WP_skip ?_
        refine T_n ?_
        refine WP_seq ?_
        refine WP_block ?_
        refine WP_seq ?_
        refine WP_region ?_
        obtain ⟨x_23, hx_23⟩ : ∃ x, (l0)[k]? = some x := ⟨_, List.getElem?_eq_getElem (by (first | omega | (rw [hp1l.1]; decide) | (rw [← hdet.1]; omega)))⟩
        obtain ⟨p_24, u_25, hp_24, qp_24, hu_25⟩ := RdSS.at h0 hx_23
        have bu_25 := hu_25.bound
        refine S_v E rfl (R_idx E rfl rfl T33 hp_24 rfl) rfl ?_
        clear E a; intro a E
        refine S_v E rfl (R_loadA (cs := [.int .i64 x_23.1, .int .i64 x_23.2.1, .int .i64 x_23.2.2.1, .int .i64 x_23.2.2.2.1, .int .i64 x_23.2.2.2.2.1, u_25]) E rfl (Tryz.isAgg40 _) (Tryz.sizeOf40 _) S.imm qp_24) rfl ?_
        clear E a; intro a E
        refine S_x (X_alloc (cs := #[.int .i64 0, .int .i64 0, .int .i64 0, .int .i64 0, .int .i64 0, .slice none 0 0]) E S rfl Tryz.zeroValue40 rfl ?_)
        clear E a S; rintro a w b_26 E S
        refine S_x0 (X_storeG (us := [.int .i64 x_23.1, .int .i64 x_23.2.1, .int .i64 x_23.2.2.1, .int .i64 x_23.2.2.2.1, .int .i64 x_23.2.2.2.2.1, u_25]) E S rfl rfl (Tryz.sizeOf40 _) rfl (by intro u hu; simp only [List.mem_cons, List.not_mem_nil, or_false] at hu; rcases hu with rfl | rfl | rfl | rfl | rfl | rfl <;> first | exact rfl | exact rfl | exact rfl | exact rfl | exact rfl | exact (RdS.one' hu_25)) ?_)
        clear E a S; rintro a w E S
        replace S : St w M_21 (blk b_26 (.cells #[.int .i64 x_23.1, .int .i64 x_23.2.1, .int .i64 x_23.2.2.1, .int .i64 x_23.2.2.2.1, .int .i64 x_23.2.2.2.2.1, u_25] 40) :: _) := S
        have S0 := S; clear S
        obtain ⟨M_27, hM_27, hb_28, S⟩ := S0.freezeB
        clear S0
        replace h0 := h0.le RSS_mono hM_27
        replace hv_3 := hv_3.le RSS_mono hM_27
        replace hx_10 := hx_10.le RAN_mono hM_27
        replace hx_11 := hx_11.le hM_27
        replace hu_15 := hu_15.le hM_27
        replace qp_14 := cellsM_le hM_27 qp_14
        replace hu_25 := hu_25.le hM_27
        refine WL_nil ?_
        refine T_n ?_
        refine WP_seq ?_
        refine WP_region ?_
        refine S_v E rfl (R_fieldAddr E rfl (FA40_0 _)) rfl ?_
        clear E a; intro a E
        refine S_v E rfl (R_loadM E rfl Tryz.isAgg3 S.imm (cellM_boxo hb_28 rfl)) rfl ?_
        clear E a; intro a E
        refine S_v E rfl (R_eql E rfl rfl) rfl ?_
        clear E a; intro a E
        refine S_v E rfl (R_move E rfl) rfl ?_
        clear E a; intro a E
        refine split_bool (decide (x_23.1 = 24)) (fun hc_29 => ?_) (fun hc_29 => ?_)
        · replace E := E.val (t := 47) rfl hc_29
          replace E := E.val (t := 48) rfl hc_29
          replace hc_29 := of_decide_eq_true hc_29
          refine WL_guard_no E rfl rfl rfl rfl fun a E => ?_
          refine WL_guard_no E rfl rfl rfl rfl fun a E => ?_
          refine WL_guard_no E rfl rfl rfl rfl fun a E => ?_
          refine S_v E rfl (R_pickT E rfl rfl) rfl ?_
          clear E a; intro a E
          refine WL_nil ?_
          refine T_n ?_
          refine WP_condT E rfl rfl ?_
          refine WP_seq ?_
          refine WP_region ?_
          refine S_v E rfl (R_assign E rfl) rfl ?_
          clear E a; intro a E
          refine WL_nil ?_
          refine T_n ?_
          refine WP_ret ?_
          refine B_r ?_
          refine T_r ?_
          refine T_r ?_
          refine B_r ?_
          refine T_r ?_
          exact F_ret1 E Tryz.results5 rfl ⟨_, rfl, M_27, (hM_1.trans (hM_4.trans (hM_5.trans (hM_19.trans (hM_21.trans hM_27))))), rfl, S⟩
        · replace E := E.val (t := 47) rfl hc_29
          replace E := E.val (t := 48) rfl hc_29
          replace hc_29 := of_decide_eq_false hc_29
          refine WL_guard_yes E rfl rfl ?_
          refine S_v E rfl (R_fieldAddr E rfl (FA40_0 _)) rfl ?_
          clear E a; intro a E
          refine WL_guard_yes E rfl rfl ?_
          refine S_v E rfl (R_loadM E rfl Tryz.isAgg3 S.imm (cellM_boxo hb_28 rfl)) rfl ?_
          clear E a; intro a E
          refine WL_guard_yes E rfl rfl ?_
          refine S_v E rfl (R_eql E rfl rfl) rfl ?_
          clear E a; intro a E
          refine S_v E rfl (R_pickF E rfl rfl) rfl ?_
          clear E a; intro a E
          refine WL_nil ?_
          refine T_n ?_
          refine WP_cond E rfl (fun hc_30 => ?_) (fun hc_30 => ?_)
          · replace hc_30 := of_decide_eq_true hc_30
            refine WP_seq ?_
            refine WP_region ?_
            refine S_v E rfl (R_assign E rfl) rfl ?_
            clear E a; intro a E
            refine WL_nil ?_
            refine T_n ?_
            refine WP_ret ?_
            refine B_r ?_
            refine T_r ?_
            refine T_r ?_
            refine B_r ?_
            refine T_r ?_
            exact F_ret1 E Tryz.results5 rfl ⟨_, rfl, M_27, (hM_1.trans (hM_4.trans (hM_5.trans (hM_19.trans (hM_21.trans hM_27))))), rfl, S⟩
          · replace hc_30 := of_decide_eq_false hc_30
            refine WP_skip ?_
            refine B_n ?_
            refine T_n ?_
            refine WP_region ?_
            refine S_v E rfl (R_addx (m := ((k + 1 : Nat) : Int)) E rfl rfl (by omega) (by omega)) rfl ?_
            clear E a; intro a E
            refine S_v E rfl (R_move E rfl) rfl ?_
            clear E a; intro a E
            refine WL_nil ?_
            refine T_n ?_
            exact ⟨k + 1, ⟨M_27, (hM_21.trans hM_27), S, E.keep ⟨rfl, rfl, rfl, rfl, trivial⟩, by ((try clear S); (try clear E); first | assumption | omega | rfl | (simp; done) | (simp_all; done) | (simp [List.take_add_one, *]; done) | grind [List.take_add_one]), (by refine tkA (by assumption) (by assumption) ?_; simp_all; done)⟩, by omega⟩
      · replace hc_22 := of_decide_eq_false hc_22
        have hno := tkE hL0_1 (show l0.length ≤ k by omega)
        refine WP_exit ?_
        refine T_x ?_
        refine T_x ?_
        refine B_x ?_
        refine T_n ?_
        refine WP_seq ?_
        refine WP_region ?_
        refine S_v E rfl (R_move E rfl) rfl ?_
        clear E a; intro a E
        refine S_x (X_sp (p := []) E S rfl rfl rfl (impl_SetScript h0 (by first | assumption | (simp; done) | omega) (by first | assumption | (intro s hs; simp only [List.mem_cons, List.not_mem_nil, or_false] at hs; subst hs; simp; done) | (intro s hs; have h9 := (by assumption : ∀ s ∈ _, List.length (Prod.snd (Prod.snd (Prod.snd (Prod.snd (Prod.snd s))))) ≤ 100) s hs; omega))) (Hp.le.refl _) ?_)
        clear E a S; rintro a _ w M_31 _ hM_31 ⟨u_32, w_33, an_34, ls_35, rfl, rfl, hx_36, hx_37, hpA⟩ S E
        replace S : St w M_31 (H) := S
        replace h0 := h0.le RSS_mono hM_31
        replace hv_3 := hv_3.le RSS_mono hM_31
        replace hx_10 := hx_10.le RAN_mono hM_31
        replace hx_11 := hx_11.le hM_31
        replace hu_15 := hu_15.le hM_31
        replace qp_14 := cellsM_le hM_31 qp_14
        refine S_v E rfl (R_move E rfl) rfl ?_
        clear E a; intro a E
        refine S_v E rfl (R_extract E rfl rfl) rfl ?_
        clear E a; intro a E
        refine S_v E rfl (R_extract E rfl rfl) rfl ?_
        clear E a; intro a E
        refine S_v E rfl (R_assign E rfl) rfl ?_
        clear E a; intro a E
        refine S_v E rfl (R_assign E rfl) rfl ?_
        clear E a; intro a E
        refine WL_nil ?_
        refine T_n ?_
        refine WP_seq ?_
        refine WP_region ?_
        refine S_v E rfl (R_move E rfl) rfl ?_
        clear E a; intro a E
        refine S_x (X_sp (p := []) E S rfl rfl rfl (impl_SetScript h0 (by first | assumption | (simp; done) | omega) (by first | assumption | (intro s hs; simp only [List.mem_cons, List.not_mem_nil, or_false] at hs; subst hs; simp; done) | (intro s hs; have h9 := (by assumption : ∀ s ∈ _, List.length (Prod.snd (Prod.snd (Prod.snd (Prod.snd (Prod.snd s))))) ≤ 100) s hs; omega))) (Hp.le.refl _) ?_)
        clear E a S; rintro a _ w M_38 _ hM_38 ⟨u_39, w_40, an_41, ls_42, rfl, rfl, hx_43, hx_44, hpB⟩ S E
        replace S : St w M_38 (H) := S
        replace h0 := h0.le RSS_mono hM_38
        replace hv_3 := hv_3.le RSS_mono hM_38
        replace hx_10 := hx_10.le RAN_mono hM_38
        replace hx_11 := hx_11.le hM_38
        replace hu_15 := hu_15.le hM_38
        replace qp_14 := cellsM_le hM_38 qp_14
        replace hx_36 := hx_36.le RAN_mono hM_38
        replace hx_37 := hx_37.le hM_38
        refine S_v E rfl (R_move E rfl) rfl ?_
        clear E a; intro a E
        refine S_v E rfl (R_extract E rfl rfl) rfl ?_
        clear E a; intro a E
        refine S_v E rfl (R_extract E rfl rfl) rfl ?_
        clear E a; intro a E
        refine S_v E rfl (R_assign E rfl) rfl ?_
        clear E a; intro a E
        refine S_v E rfl (R_assign E rfl) rfl ?_
        clear E a; intro a E
        refine WL_nil ?_
        refine T_n ?_
        refine WP_seq ?_
        refine WP_seq ?_
        refine WP_region ?_
        refine S_v E rfl (R_move E rfl) rfl ?_
        clear E a; intro a E
        refine S_v E rfl (R_lenV E rfl T35 hx_36.len) rfl ?_
        clear E a; intro a E
        refine S_v E rfl (R_move E rfl) rfl ?_
        clear E a; intro a E
        refine S_v E rfl (R_lenV E rfl T35 hx_43.len) rfl ?_
        clear E a; intro a E
        have hal := (play_canon hpA).2.2
        have hdet := run_det hno (play_run hpA) (play_run hpB)
        refine S_v E rfl (R_neq E rfl rfl) rfl ?_
        clear E a; intro a E
        refine S_v E rfl (R_move E rfl) rfl ?_
        clear E a; intro a E
        have hc_45 : (decide ((((an_34).length : Nat) : Int) ≠ (((an_41).length : Nat) : Int))) = false := by (clear S E; first | exact one_is hp1l.1 (by assumption) | (obtain ⟨e1, e2⟩ := hdet; subst e1; subst e2; simp_all; done) | (obtain ⟨e1, e2⟩ := play_one hp1; subst e1; subst e2; simp_all; done))
        replace E := E.val (t := 68) rfl hc_45
        replace E := E.val (t := 69) rfl hc_45
        refine WL_guard_yes E rfl rfl ?_
        refine S_v E rfl (R_move E rfl) rfl ?_
        clear E a; intro a E
        refine WL_guard_yes E rfl rfl ?_
        refine S_v E rfl (R_move E rfl) rfl ?_
        clear E a; intro a E
        refine WL_guard_yes E rfl rfl ?_
        refine S_x (X_pu E S rfl rfl rfl (laws_eqLists hx_37 hx_44) (Hp.le.refl _) ?_)
        clear E a S; rintro a _ w M_46 hM_46 rfl S E
        replace h0 := h0.le RSS_mono hM_46
        replace hv_3 := hv_3.le RSS_mono hM_46
        replace hx_10 := hx_10.le RAN_mono hM_46
        replace hx_11 := hx_11.le hM_46
        replace hu_15 := hu_15.le hM_46
        replace qp_14 := cellsM_le hM_46 qp_14
        replace hx_36 := hx_36.le RAN_mono hM_46
        replace hx_37 := hx_37.le hM_46
        replace hx_43 := hx_43.le RAN_mono hM_46
        replace hx_44 := hx_44.le hM_46
        refine WL_guard_yes E rfl rfl ?_
        refine S_v E rfl (R_not E rfl) rfl ?_
        clear E a; intro a E
        refine S_v E rfl (R_pickF E rfl rfl) rfl ?_
        clear E a; intro a E
        refine WL_nil ?_
        refine T_n ?_
        have hc_47 : (!(decide (ls_35 = ls_42))) = false := by (clear S E; first | exact one_is hp1l.1 (by assumption) | (obtain ⟨e1, e2⟩ := hdet; subst e1; subst e2; simp_all; done) | (obtain ⟨e1, e2⟩ := play_one hp1; subst e1; subst e2; simp_all; done))
        refine WP_condF E rfl hc_47 ?_
        refine WP_skip ?_
        refine T_n ?_
        refine WP_seq ?_
        refine WP_seq ?_
        refine WP_region ?_
        refine S_v E rfl (R_move E rfl) rfl ?_
        clear E a; intro a E
        refine S_v E rfl (R_lenV E rfl T35 hx_36.len) rfl ?_
        clear E a; intro a E
        refine S_v E rfl (R_move E rfl) rfl ?_
        clear E a; intro a E
        refine WL_nil ?_
        refine T_n ?_
        refine WP_block ?_
        refine WP_loop (γ := Nat) (fun (j : Nat) a w => ∃ (M_48 : Hp), Hp.le M_46 M_48 ∧ St w M_48 (H) ∧ Env a 119 [] [(7, u_32), (9, u_39), (76, .int .i64 (((an_34).length : Nat) : Int)), (77, .int .i64 ((j : Nat) : Int))] ∧ (j ≤ (an_34).length)) (fun j => ((an_34).length) - j) 0 ⟨M_46, Hp.le.refl _, S, E.keep ⟨rfl, rfl, rfl, rfl, trivial⟩, by ((try clear S); (try clear E); first | assumption | omega | rfl | (simp; done) | (simp_all; done) | (simp [List.take_add_one, *]; done) | grind [List.take_add_one])⟩ ?_
        try clear E
        try clear S
        try clear a
        try clear w
        rintro j a w ⟨M_48, hM_48, S, E, hL1_0⟩
        replace h0 := h0.le RSS_mono hM_48
        replace hv_3 := hv_3.le RSS_mono hM_48
        replace hx_10 := hx_10.le RAN_mono hM_48
        replace hx_11 := hx_11.le hM_48
        replace hu_15 := hu_15.le hM_48
        replace qp_14 := cellsM_le hM_48 qp_14
        replace hx_36 := hx_36.le RAN_mono hM_48
        replace hx_37 := hx_37.le hM_48
        replace hx_43 := hx_43.le RAN_mono hM_48
        replace hx_44 := hx_44.le hM_48
        refine WP_seq ?_
        refine WP_region ?_
        refine S_v E rfl (R_lss E rfl rfl) rfl ?_
        clear E a; intro a E
        refine WL_nil ?_
        refine T_n ?_
        refine WP_seq ?_
        refine WP_cond E rfl (fun hc_49 => ?_) (fun hc_49 => ?_)
        · replace hc_49 := of_decide_eq_true hc_49
          refine WP_skip ?_
          refine T_n ?_
          refine WP_seq ?_
          refine WP_block ?_
          refine WP_seq ?_
          refine WP_region ?_
          refine S_v E rfl (R_move E rfl) rfl ?_
          clear E a; intro a E
          refine S_v E rfl (R_assign E rfl) rfl ?_
          clear E a; intro a E
          refine WL_nil ?_
          refine T_n ?_
          refine WP_seq ?_
          replace S := S.mono_heap (w' := World.drew _) rfl
          refine WP_drawn (C := fun x w => agree M_48 w) (bf := (fun i => [])) [0, 1, 2, 3, 4, 5, 6, 7, 8, 9, 10, 11, 12, 13, 14, 15, 16, 17, 18, 19, 20, 21, 22, 23, 24, 25, 26, 27, 28, 29, 30, 31, 32, 33, 34, 36, 37] [0, 1, 2, 3, 4, 5, 6, 7, 8, 9, 10, 11, 12, 13, 14, 15, 16, 17, 18, 19, 20, 21, 22, 23, 24, 25, 26, 27, 28, 29, 30, 31, 32, 33, 34, 35, 36, 37] Tryz.mixed (by kernel_rfl) (fun x hq => S.imm) ?_
          refine D_v E rfl rfl rfl (fun w hC => (R_move E rfl)) ?_
          clear E a; intro a E
          refine D_v E rfl rfl rfl (fun w hC => (R_move E rfl)) ?_
          clear E a; intro a E
          obtain ⟨x_50, hx_50⟩ : ∃ x, (an_34)[j]? = some x := ⟨_, List.getElem?_eq_getElem (by (first | omega | (rw [hp1l.1]; decide) | (rw [← hdet.1]; omega)))⟩
          obtain ⟨p_51, u_52, hp_51, qp_51, hu_52⟩ := RdAN.at hx_36 hx_50
          have bu_52 := hu_52.bound
          refine D_v E rfl rfl rfl (fun w hC => (R_idx E rfl rfl T35 hp_51 rfl)) ?_
          clear E a; intro a E
          have qf_53 := qp_51 0 _ rfl
          refine D_v E rfl rfl rfl (fun w hC => (R_fieldAddr E rfl (FA42_0 _))) ?_
          clear E a; intro a E
          refine D_v E rfl rfl rfl (fun w hC => (R_loadM E rfl Tryz.isAgg4 hC qf_53)) ?_
          clear E a; intro a E
          refine D_v E rfl rfl rfl (fun w hC => (R_move E rfl)) ?_
          clear E a; intro a E
          refine D_v E rfl rfl rfl (fun w hC => (R_move E rfl)) ?_
          clear E a; intro a E
          obtain ⟨x_54, hx_54⟩ : ∃ x, (an_41)[j]? = some x := ⟨_, List.getElem?_eq_getElem (by (first | omega | (rw [hp1l.1]; decide) | (rw [← hdet.1]; omega)))⟩
          obtain ⟨p_55, u_56, hp_55, qp_55, hu_56⟩ := RdAN.at hx_43 hx_54
          have bu_56 := hu_56.bound
          refine D_v E rfl rfl rfl (fun w hC => (R_idx E rfl rfl T35 hp_55 rfl)) ?_
          clear E a; intro a E
          have qf_57 := qp_55 0 _ rfl
          refine D_v E rfl rfl rfl (fun w hC => (R_fieldAddr E rfl (FA42_0 _))) ?_
          clear E a; intro a E
          refine D_v E rfl rfl rfl (fun w hC => (R_loadM E rfl Tryz.isAgg4 hC qf_57)) ?_
          clear E a; intro a E
          refine D_v E rfl rfl rfl (fun w hC => (R_neqB E rfl rfl Tryz.underlying4)) ?_
          clear E a; intro a E
          refine D_v E rfl rfl rfl (fun w hC => (R_move E rfl)) ?_
          clear E a; intro a E
          have hc_58 : (!(x_50.1 == x_54.1)) = false := by (clear S E; first | exact one_is hp1l.1 (by assumption) | (obtain ⟨e1, e2⟩ := hdet; subst e1; subst e2; simp_all; done) | (obtain ⟨e1, e2⟩ := play_one hp1; subst e1; subst e2; simp_all; done))
          replace E := E.val (t := 90) rfl hc_58
          replace E := E.val (t := 91) rfl hc_58
          refine D_vyes E rfl rfl rfl rfl rfl (fun w hC => (R_move E rfl)) ?_
          clear E a; intro a E
          refine D_vyes E rfl rfl rfl rfl rfl (fun w hC => (R_move E rfl)) ?_
          clear E a; intro a E
          obtain ⟨p_59, u_60, hp_59, qp_59, hu_60⟩ := RdAN.at hx_36 hx_50
          have bu_60 := hu_60.bound
          refine D_vyes E rfl rfl rfl rfl rfl (fun w hC => (R_idx E rfl rfl T35 hp_59 rfl)) ?_
          clear E a; intro a E
          have qf_61 := qp_59 1 _ rfl
          refine D_vyes E rfl rfl rfl rfl rfl (fun w hC => (R_fieldAddr E rfl (FA42_1 _))) ?_
          clear E a; intro a E
          refine D_vyes E rfl rfl rfl rfl rfl (fun w hC => (R_loadM E rfl Tryz.isAgg3 hC qf_61)) ?_
          clear E a; intro a E
          refine D_vyes E rfl rfl rfl rfl rfl (fun w hC => (R_move E rfl)) ?_
          clear E a; intro a E
          refine D_vyes E rfl rfl rfl rfl rfl (fun w hC => (R_move E rfl)) ?_
          clear E a; intro a E
          obtain ⟨p_62, u_63, hp_62, qp_62, hu_63⟩ := RdAN.at hx_43 hx_54
          have bu_63 := hu_63.bound
          refine D_vyes E rfl rfl rfl rfl rfl (fun w hC => (R_idx E rfl rfl T35 hp_62 rfl)) ?_
          clear E a; intro a E
          have qf_64 := qp_62 1 _ rfl
          refine D_vyes E rfl rfl rfl rfl rfl (fun w hC => (R_fieldAddr E rfl (FA42_1 _))) ?_
          clear E a; intro a E
          refine D_vyes E rfl rfl rfl rfl rfl (fun w hC => (R_loadM E rfl Tryz.isAgg3 hC qf_64)) ?_
          clear E a; intro a E
          refine D_vyes E rfl rfl rfl rfl rfl (fun w hC => (R_neq E rfl rfl)) ?_
          clear E a; intro a E
          refine D_v E rfl rfl rfl (fun w hC => (R_pickF E rfl rfl)) ?_
          clear E a; intro a E
          refine D_v E rfl rfl rfl (fun w hC => (R_move E rfl)) ?_
          clear E a; intro a E
          have hc_65 : (decide (x_50.2.1 ≠ x_54.2.1)) = false := by (clear S E; first | exact one_is hp1l.1 (by assumption) | (obtain ⟨e1, e2⟩ := hdet; subst e1; subst e2; simp_all; done) | (obtain ⟨e1, e2⟩ := play_one hp1; subst e1; subst e2; simp_all; done))
          replace E := E.val (t := 102) rfl hc_65
          replace E := E.val (t := 103) rfl hc_65
          replace E := E.val (t := 104) rfl hc_65
          refine D_vyes E rfl rfl rfl rfl rfl (fun w hC => (R_move E rfl)) ?_
          clear E a; intro a E
          refine D_vyes E rfl rfl rfl rfl rfl (fun w hC => (R_move E rfl)) ?_
          clear E a; intro a E
          obtain ⟨p_66, u_67, hp_66, qp_66, hu_67⟩ := RdAN.at hx_36 hx_50
          have bu_67 := hu_67.bound
          refine D_vyes E rfl rfl rfl rfl rfl (fun w hC => (R_idx E rfl rfl T35 hp_66 rfl)) ?_
          clear E a; intro a E
          have qf_68 := qp_66 2 _ rfl
          refine D_vyes E rfl rfl rfl rfl rfl (fun w hC => (R_fieldAddr E rfl (FA42_2 _))) ?_
          clear E a; intro a E
          refine D_vyes E rfl rfl rfl rfl rfl (fun w hC => (R_loadM E rfl Tryz.isAgg22 hC qf_68)) ?_
          clear E a; intro a E
          refine D_vyes E rfl rfl rfl rfl rfl (fun w hC => (R_move E rfl)) ?_
          clear E a; intro a E
          refine D_vyes E rfl rfl rfl rfl rfl (fun w hC => (R_move E rfl)) ?_
          clear E a; intro a E
          obtain ⟨p_69, u_70, hp_69, qp_69, hu_70⟩ := RdAN.at hx_43 hx_54
          have bu_70 := hu_70.bound
          refine D_vyes E rfl rfl rfl rfl rfl (fun w hC => (R_idx E rfl rfl T35 hp_69 rfl)) ?_
          clear E a; intro a E
          have qf_71 := qp_69 2 _ rfl
          refine D_vyes E rfl rfl rfl rfl rfl (fun w hC => (R_fieldAddr E rfl (FA42_2 _))) ?_
          clear E a; intro a E
          refine D_vyes E rfl rfl rfl rfl rfl (fun w hC => (R_loadM E rfl Tryz.isAgg22 hC qf_71)) ?_
          clear E a; intro a E
          refine D_yes E rfl rfl rfl rfl (X_pu E S rfl rfl rfl (laws_eq hu_67 hu_70) (Hp.le.refl _) ?_)
          clear E a S; rintro a _ w M_72 hM_72 rfl S E
          replace h0 := h0.le RSS_mono hM_72
          replace hv_3 := hv_3.le RSS_mono hM_72
          replace hx_10 := hx_10.le RAN_mono hM_72
          replace hx_11 := hx_11.le hM_72
          replace hu_15 := hu_15.le hM_72
          replace qp_14 := cellsM_le hM_72 qp_14
          replace hx_36 := hx_36.le RAN_mono hM_72
          replace hx_37 := hx_37.le hM_72
          replace hx_43 := hx_43.le RAN_mono hM_72
          replace hx_44 := hx_44.le hM_72
          replace hu_52 := hu_52.le hM_72
          replace qp_51 := cellsM_le hM_72 qp_51
          replace hu_56 := hu_56.le hM_72
          replace qp_55 := cellsM_le hM_72 qp_55
          replace hu_60 := hu_60.le hM_72
          replace qp_59 := cellsM_le hM_72 qp_59
          replace hu_63 := hu_63.le hM_72
          replace qp_62 := cellsM_le hM_72 qp_62
          replace hu_67 := hu_67.le hM_72
          replace qp_66 := cellsM_le hM_72 qp_66
          replace hu_70 := hu_70.le hM_72
          replace qp_69 := cellsM_le hM_72 qp_69
          refine ⟨fun x hq hb => (agree_le hM_72 S.imm), ?_⟩
          refine D_vyes E rfl rfl rfl rfl rfl (fun w hC => (R_not E rfl)) ?_
          clear E a; intro a E
          refine D_v E rfl rfl rfl (fun w hC => (R_pickF E rfl rfl)) ?_
          clear E a; intro a E
          refine D_end (NoP_n ?_)
          refine T_n ?_
          have hc_73 : (!(decide (x_50.2.2 = x_54.2.2))) = false := by (clear S E; first | exact one_is hp1l.1 (by assumption) | (obtain ⟨e1, e2⟩ := hdet; subst e1; subst e2; simp_all; done) | (obtain ⟨e1, e2⟩ := play_one hp1; subst e1; subst e2; simp_all; done))
          refine WP_condF E rfl hc_73 ?_
          refine WP_skip ?_
          refine B_n ?_
          refine T_n ?_
          refine WP_region ?_
          refine S_v E rfl (R_addx (m := ((j + 1 : Nat) : Int)) E rfl rfl (by omega) (by omega)) rfl ?_
          clear E a; intro a E
          refine S_v E rfl (R_move E rfl) rfl ?_
          clear E a; intro a E
          refine WL_nil ?_
          refine T_n ?_
          exact ⟨j + 1, ⟨M_72, (hM_48.trans hM_72), S, E.keep ⟨rfl, rfl, rfl, rfl, trivial⟩, by ((try clear S); (try clear E); first | assumption | omega | rfl | (simp; done) | (simp_all; done) | (simp [List.take_add_one, *]; done) | grind [List.take_add_one])⟩, by omega⟩
        · replace hc_49 := of_decide_eq_false hc_49
          refine WP_exit ?_
          refine T_x ?_
          refine T_x ?_
          refine B_x ?_
          refine T_n ?_
          refine WP_seq ?_
          refine WP_region ?_
          refine S_v E rfl (R_assign E rfl) rfl ?_
          clear E a; intro a E
          refine WL_nil ?_
          refine T_n ?_
          refine WP_ret ?_
          exact F_ret1 E Tryz.results5 rfl ⟨_, rfl, M_48, (hM_1.trans (hM_4.trans (hM_5.trans (hM_19.trans (hM_21.trans (hM_31.trans (hM_38.trans (hM_46.trans hM_48)))))))), rfl, S⟩

end Go.Proofs.YtlmpgefhnmfhpaaGreat.wFnSetKinds
