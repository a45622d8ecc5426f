/- Walks through the functions that laws.FnCrossed reaches: what each computes; no conditions beyond what each theorem states. -/
import Derived.Test.YtbdacnblipmapaaWFnCrosseda
set_option linter.unusedVariables false
set_option linter.unusedSimpArgs false
namespace Go.Proofs.Ytbdacnblipmapaa.wFnCrossed
open Go Go.Sl
set_option maxRecDepth 100000 in
set_option maxHeartbeats 4000000 in
theorem impl_CrossJoin2Seq {M : Hp} {v0 v1 : Value} {l0 l1 : List Int} (h0 : RdI M v0 l0) (h1 : RdI M v1 l1) (hb0 : l0.length ≤ 1000) (hb1 : l1.length ≤ 1000) :
    Pu Try.prog (.func (.func 57) #[] #[]) M [v0, v1] (fun r M' => RdS 2 RP2 M' r (crossF (fun x y => (x, y)) l0 l1)) := by
  refine Pu_enter Try.func57 rfl Try.ntmps57 rfl Try.call57 ?_
  intro a w M1 H hM1 S E
  replace h0 := h0.le hM1
  replace h1 := h1.le hM1
  replace S : St w M1 (mks [] :: _) := S.empty
  replace E : Env a 22 (([] : List Nat).map mk) _ := E
  have b0 := h0.bound
  have b1 := h1.bound
  have hmul : l0.length * l1.length ≤ 1000 * 1000 := Nat.mul_le_mul hb0 hb1
  have hcl := cr_len (fun x y => (x, y)) l1 l0
  refine WP_seq ?_
  refine WP_region ?_
  refine S_v E rfl (R_assign E rfl) rfl ?_
  clear E a; intro a E
  refine WL_nil ?_
  refine T_n ?_
  refine WP_seq ?_
  refine WP_region ?_
  refine S_x (X_alloc (cs := #[.slice none 0 0]) E S rfl Try.zeroValue51 rfl ?_)
  clear E a S; rintro a w b_1 E S
  refine WL_nil ?_
  refine T_n ?_
  refine WP_seq ?_
  refine WP_seq ?_
  refine WP_region ?_
  refine S_v E rfl (R_move E rfl) rfl ?_
  clear E a; intro a E
  refine S_x (X_pu E S rfl rfl rfl (slices_Values h0) (Hp.le.refl _) ?_)
  clear E a S; rintro a v_3 w M_2 hM_2 hv_3 S E
  replace h0 := h0.le hM_2
  replace h1 := h1.le hM_2
  refine S_v E rfl (R_move E rfl) rfl ?_
  clear E a; intro a E
  refine S_x (X_pu E S rfl rfl rfl (slices_Values h1) (Hp.le.refl _) ?_)
  clear E a S; rintro a v_5 w M_4 hM_4 hv_5 S E
  replace h0 := h0.le hM_4
  replace h1 := h1.le hM_4
  replace hv_3 := hv_3.le hM_4
  refine S_x (X_pu E S rfl rfl rfl (it_CrossJoin2 hv_3 hv_5) (Hp.le.refl _) ?_)
  clear E a S; rintro a v_7 w M_6 hM_6 hv_7 S E
  replace h0 := h0.le hM_6
  replace h1 := h1.le hM_6
  replace hv_3 := hv_3.le hM_6
  replace hv_5 := hv_5.le hM_6
  refine WL_nil ?_
  refine T_n ?_
  refine WP_block ?_
  replace S : St w M_6 (OwnC 55 2 (.slice none 0 0) ([] : List (Int × Int)).length [] :: _) := S.ownNil
  have hr_9 : RowsR RP2 2 M_6 ([] : List (Int × Int)) [] := RowsR.nil
  replace S := S.front1
  replace E := E.keep (l' := [(5, .pointer (some ⟨b_1, 0, none⟩)), (11, v_7)]) ⟨rfl, rfl, trivial⟩
  replace S := S.front1
  replace S := S.front1
  have S0 := S; clear S; have S := St.pack [blk b_1 (.cells #[(.slice none 0 0)] 51), OwnC 55 2 (.slice none 0 0) ([] : List (Int × Int)).length []] S0; clear S0
  refine WP_range (RV := RVP2) (l := crossF (fun x y => (x, y)) l0 l1) (fun pre M c => ∃ (u5 : Value) (xs5 : List Value), c = bigs [blk b_1 (.cells #[u5] 51), OwnC 55 2 u5 pre.length xs5] ∧ (RowsR RP2 2 M pre xs5)) (fun _ _ _ _ => False) E S rfl hv_7 (Hp.le.refl _) (fun _ _ _ h => by rw [h]; rfl) (by decide) (by rintro _ M M' c hM ⟨u5, xs5, rfl, fr5⟩; exact ⟨_, _, rfl, fr5.le RP2_mono hM⟩) ⟨_, _, rfl, hr_9⟩ ?_ ?_ ?_
  clear E S
  · rintro lb_11 rec_12 pre x _ a w M_10 _ G hM_10 hp_13 rfl ⟨u5, xs5, rfl, fr5⟩ E S
    replace E : Env a 22 [] [(12, .agg #[.int .i64 x.1, .int .i64 x.2]), (5, .pointer (some ⟨b_1, 0, none⟩)), (11, v_7)] := E
    replace S := S.swap.unpack2
    have hq0 := prefix_lt hp_13
    replace h0 := h0.le hM_10
    replace h1 := h1.le hM_10
    replace hv_3 := hv_3.le hM_10
    replace hv_5 := hv_5.le hM_10
    replace hv_7 := hv_7.le hM_10
    replace hr_9 := hr_9.le RP2_mono hM_10
    have hpl := hp_13.length_le; simp at hpl
    refine WP_region ?_
    refine S_x (X_alloc (cs := #[.int .i64 0, .int .i64 0]) E S rfl Try.zeroValue106 rfl ?_)
    clear E a S; rintro a w b_15 E S
    refine S_x0 (X_storeG (us := [.int .i64 x.1, .int .i64 x.2]) E S rfl rfl (Try.sizeOf106 _) rfl (by intro u hu; simp only [List.mem_cons, List.not_mem_nil, or_false] at hu; rcases hu with rfl | rfl <;> first | exact rfl | exact rfl) ?_)
    clear E a S; rintro a w E S
    replace S : St w M_10 (blk b_15 (.cells #[.int .i64 x.1, .int .i64 x.2] 106) :: _) := S
    have S0 := S; clear S
    obtain ⟨M_16, hM_16, hb_17, S⟩ := S0.freezeB
    clear S0
    replace h0 := h0.le hM_16
    replace h1 := h1.le hM_16
    replace hv_3 := hv_3.le hM_16
    replace hv_5 := hv_5.le hM_16
    replace hv_7 := hv_7.le hM_16
    replace hr_9 := hr_9.le RP2_mono hM_16
    replace fr5 := fr5.le RP2_mono hM_16
    refine WL_nil ?_
    refine T_n ?_
    replace S := S.front2
    refine rb S ?_
    clear S; intro w S
    refine WP_block ?_
    refine WP_region ?_
    refine S_v E rfl (R_load E rfl (Try.isAgg51 _) (cell_blk (S.mem (.tail _ (.head _))))) rfl ?_
    clear E a; intro a E
    refine S_v E rfl (R_fieldAddr E rfl (FA106_0 _)) rfl ?_
    clear E a; intro a E
    refine S_v E rfl (R_loadM E rfl Try.isAgg3 S.imm (cellM_boxo hb_17 rfl)) rfl ?_
    clear E a; intro a E
    refine S_v E rfl (R_fieldAddr E rfl (FA106_1 _)) rfl ?_
    clear E a; intro a E
    refine S_v E rfl (R_loadM E rfl Try.isAgg3 S.imm (cellM_boxo hb_17 rfl)) rfl ?_
    clear E a; intro a E
    refine S_v E rfl (R_build (u := .agg #[.int .i64 x.1, .int .i64 x.2]) (vs := [.int .i64 x.1, .int .i64 x.2]) E rfl (fun w => FB55_0_1_ii x.1 x.2 w)) rfl ?_
    clear E a; intro a E
    refine S_x (X_buildA1 (R := RP2) (cs := [.int .i64 x.1, .int .i64 x.2]) (x0 := x) RP2_mono E S rfl T51 rfl rfl rfl rfl ?_)
    clear E a S; rintro a v_18 w M_19 hM_19 hv_18 S E
    replace h0 := h0.le hM_19
    replace h1 := h1.le hM_19
    replace hv_3 := hv_3.le hM_19
    replace hv_5 := hv_5.le hM_19
    replace hv_7 := hv_7.le hM_19
    replace hr_9 := hr_9.le RP2_mono hM_19
    replace fr5 := fr5.le RP2_mono hM_19
    replace hb_17 := hM_19.2 _ _ hb_17
    replace S := S.front2
    refine S_x (X_appendR (R := RP2) (zs := pre) (ys := [x]) E S fr5 rfl rfl rfl T51 hv_18 one_RP2 (by (simp only [List.length_cons, List.length_nil]; omega)) (by (simp only [List.length_cons, List.length_nil]; omega)) ?_)
    clear E a S; rintro a w v_20 xs_21 E hr_22 S
    have ho_23 := S.oneC
    replace S := S.front2
    refine S_x0 (X_store E S rfl rfl (Try.sizeOf51 _) ho_23 ?_)
    clear E a S; rintro a w E S
    refine WL_nil ?_
    refine B_n ?_
    replace S := S.front1
    replace S := S.front1
    replace S := S.front1
    replace S := S.front1
    have S0 := S; clear S; have S := (St.pack [blk b_1 (.cells #[v_20] 51), OwnC 55 2 v_20 (pre ++ [x]).length xs_21] S0).swap; clear S0
    exact ⟨M_19, _, (hM_16.trans hM_19), ⟨_, _, rfl, hr_22⟩, S⟩
  · rintro a w M_24 _ D_25 hM_24 ⟨u5, xs5, rfl, fr5⟩ S E
    replace S := S.unpack2
    replace h0 := h0.le hM_24
    replace h1 := h1.le hM_24
    replace hv_3 := hv_3.le hM_24
    replace hv_5 := hv_5.le hM_24
    replace hv_7 := hv_7.le hM_24
    replace hr_9 := hr_9.le RP2_mono hM_24
    refine B_n ?_
    refine T_n ?_
    refine WP_seq ?_
    refine WP_region ?_
    refine S_v E rfl (R_load E rfl (Try.isAgg51 _) (cell_blk (S.mem (.head _)))) rfl ?_
    clear E a; intro a E
    refine S_v E rfl (R_assign E rfl) rfl ?_
    clear E a; intro a E
    refine WL_nil ?_
    refine T_n ?_
    refine WP_ret ?_
    replace S := S.front1
    have S0 := S; clear S
    obtain ⟨M_26, hM_26, hz_27, S⟩ := S0.freezeR fr5 RP2_mono (by (first | omega | (simp; omega) | (simp; done) | (simp_all; omega) | grind))
    clear S0
    replace h0 := h0.le hM_26
    replace h1 := h1.le hM_26
    replace hv_3 := hv_3.le hM_26
    replace hv_5 := hv_5.le hM_26
    replace hv_7 := hv_7.le hM_26
    replace hr_9 := hr_9.le RP2_mono hM_26
    replace S := S.drop
    exact F_retM1 E S Try.results57 rfl (fun w S => ⟨_, rfl, M_26, (hM_2.trans (hM_4.trans (hM_6.trans (hM_24.trans hM_26)))), hz_27, S⟩)
  · rintro _ _ _ _ _ _ _ _ _ hX; exact hX.elim

set_option maxRecDepth 100000 in
set_option maxHeartbeats 4000000 in
theorem laws_eqPairs {M : Hp} {v0 : Value} {l0 : List (Int × Int)} (h0 : RdS 2 RP2 M v0 l0) {v1 : Value} {l1 : List (Int × Int)} (h1 : RdS 2 RP2 M v1 l1) :
    Pu Try.prog (.func (.func 56) #[] #[]) M [v0, v1] (fun r M' => r = .bool (decide (l0 = l1))) := by
  refine Pu_enter Try.func56 rfl Try.ntmps56 rfl Try.call56 ?_
  intro a w M1 H hM1 S E
  replace h0 := h0.le RP2_mono hM1
  replace h1 := h1.le RP2_mono hM1
  have b0 := h0.bound
  have b1 := h1.bound
  refine WP_seq ?_
  refine WP_region ?_
  refine S_v E rfl (R_assign E rfl) rfl ?_
  clear E a; intro a E
  refine WL_nil ?_
  refine T_n ?_
  refine WP_seq ?_
  refine WP_seq ?_
  refine WP_region ?_
  refine S_v E rfl (R_move E rfl) rfl ?_
  clear E a; intro a E
  refine S_v E rfl (R_lenV E rfl T51 h0.len) rfl ?_
  clear E a; intro a E
  refine S_v E rfl (R_move E rfl) rfl ?_
  clear E a; intro a E
  refine S_v E rfl (R_lenV E rfl T51 h1.len) rfl ?_
  clear E a; intro a E
  refine S_v E rfl (R_neq E rfl rfl) rfl ?_
  clear E a; intro a E
  refine WL_nil ?_
  refine T_n ?_
  refine WP_cond E rfl (fun hc_1 => ?_) (fun hc_1 => ?_)
  · replace hc_1 := of_decide_eq_true hc_1
    refine WP_seq ?_
    refine WP_region ?_
    refine S_v E rfl (R_assign E rfl) rfl ?_
    clear E a; intro a E
    refine WL_nil ?_
    refine T_n ?_
    refine WP_ret ?_
    refine T_r ?_
    exact F_ret1 E Try.results56 rfl ⟨_, rfl, M1, (Hp.le.refl _), (bF (by (first | (simp; done) | exact eqp_no (by assumption) (by assumption) (p2_ne (by assumption)) | (have h9 : l0.take k = l1.take k := (by assumption); rwa [List.take_of_length_le (by omega), List.take_of_length_le (by omega)] at h9) | (intro h9; subst h9; omega) | (intro h9; subst h9; simp_all; done)))), S⟩
  · replace hc_1 := of_decide_eq_false hc_1
    refine WP_skip ?_
    refine T_n ?_
    refine WP_seq ?_
    refine WP_seq ?_
    refine WP_region ?_
    refine S_v E rfl (R_move E rfl) rfl ?_
    clear E a; intro a E
    refine S_v E rfl (R_lenV E rfl T51 h0.len) rfl ?_
    clear E a; intro a E
    refine S_v E rfl (R_move E rfl) rfl ?_
    clear E a; intro a E
    refine WL_nil ?_
    refine T_n ?_
    refine WP_block ?_
    refine WP_loop (γ := Nat) (fun (k : Nat) a w => ∃ (M_2 : Hp), Hp.le M1 M_2 ∧ St w M_2 (H) ∧ Env a 26 [] [(0, v0), (1, v1), (12, .int .i64 (((l0).length : Nat) : Int)), (13, .int .i64 ((k : Nat) : Int))] ∧ (k ≤ (l0).length) ∧ (l0.length = l1.length) ∧ (l0.take k = l1.take k)) (fun k => ((l0).length) - k) 0 ⟨M1, Hp.le.refl _, S, E.keep ⟨rfl, rfl, rfl, rfl, trivial⟩, by ((try clear S); (try clear E); first | assumption | omega | rfl | (simp; done) | (simp_all; done) | (simp [List.take_add_one, *]; done) | grind [List.take_add_one]), by ((try clear S); (try clear E); first | assumption | omega | rfl | (simp; done) | (simp_all; done) | (simp [List.take_add_one, *]; done) | grind [List.take_add_one]), by ((try clear S); (try clear E); first | assumption | omega | rfl | (simp; done) | (simp_all; done) | (simp [List.take_add_one, *]; done) | grind [List.take_add_one])⟩ ?_
    try clear E
    try clear S
    try clear a
    try clear w
    rintro k a w ⟨M_2, hM_2, S, E, hL0_0, hL0_1, hL0_2⟩
    replace h0 := h0.le RP2_mono hM_2
    replace h1 := h1.le RP2_mono hM_2
    refine WP_seq ?_
    refine WP_region ?_
    refine S_v E rfl (R_lss E rfl rfl) rfl ?_
    clear E a; intro a E
    refine WL_nil ?_
    refine T_n ?_
    refine WP_seq ?_
    refine WP_cond E rfl (fun hc_3 => ?_) (fun hc_3 => ?_)
    · replace hc_3 := of_decide_eq_true hc_3
      refine WP_skip ?_
      refine T_n ?_
      refine WP_seq ?_
      refine WP_block ?_
      refine WP_seq ?_
      refine WP_region ?_
      refine S_v E rfl (R_move E rfl) rfl ?_
      clear E a; intro a E
      refine S_v E rfl (R_assign E rfl) rfl ?_
      clear E a; intro a E
      refine WL_nil ?_
      refine T_n ?_
      refine WP_seq ?_
      replace S := S.mono_heap (w' := World.drew _) rfl
      refine WP_drawn (C := fun x w => agree M_2 w) (bf := (fun i => [])) [0, 1, 2, 3, 4, 5, 6, 7, 8] [0, 1, 2, 3, 4, 5, 6, 7, 8] Try.mixed (by kernel_rfl) (fun x hq => S.imm) ?_
      refine D_v E rfl rfl rfl (fun w hC => (R_move E rfl)) ?_
      clear E a; intro a E
      refine D_v E rfl rfl rfl (fun w hC => (R_move E rfl)) ?_
      clear E a; intro a E
      obtain ⟨x_4, hx_4⟩ : ∃ x, (l0)[k]? = some x := ⟨_, List.getElem?_eq_getElem (by first | omega | (simp; done) | (simp; omega) | (simp_all; omega))⟩
      obtain ⟨p_5, hp_5, qp_5⟩ := RdP2.at h0 hx_4
      refine D_v E rfl rfl rfl (fun w hC => (R_idx E rfl rfl T51 hp_5 rfl)) ?_
      clear E a; intro a E
      refine D_v E rfl rfl rfl (fun w hC => (R_loadA (cs := [.int .i64 x_4.1, .int .i64 x_4.2]) E rfl (Try.isAgg55 _) (Try.sizeOf55 _) hC qp_5)) ?_
      clear E a; intro a E
      refine D_v E rfl rfl rfl (fun w hC => (R_move E rfl)) ?_
      clear E a; intro a E
      refine D_v E rfl rfl rfl (fun w hC => (R_move E rfl)) ?_
      clear E a; intro a E
      obtain ⟨x_6, hx_6⟩ : ∃ x, (l1)[k]? = some x := ⟨_, List.getElem?_eq_getElem (by first | omega | (simp; done) | (simp; omega) | (simp_all; omega))⟩
      obtain ⟨p_7, hp_7, qp_7⟩ := RdP2.at h1 hx_6
      refine D_v E rfl rfl rfl (fun w hC => (R_idx E rfl rfl T51 hp_7 rfl)) ?_
      clear E a; intro a E
      refine D_v E rfl rfl rfl (fun w hC => (R_loadA (cs := [.int .i64 x_6.1, .int .i64 x_6.2]) E rfl (Try.isAgg55 _) (Try.sizeOf55 _) hC qp_7)) ?_
      clear E a; intro a E
      refine D_v E rfl rfl rfl (fun w hC => (R_neqA E rfl rfl (by kernel_rfl) (EQ55 x_4.1 x_4.2 x_6.1 x_6.2 _))) ?_
      clear E a; intro a E
      refine D_end (NoP_n ?_)
      refine T_n ?_
      refine WP_cond E rfl (fun hc_8 => ?_) (fun hc_8 => ?_)
      · replace hc_8 := of_decide_eq_true hc_8
        refine WP_seq ?_
        refine WP_region ?_
        refine S_v E rfl (R_assign E rfl) rfl ?_
        clear E a; intro a E
        refine WL_nil ?_
        refine T_n ?_
        refine WP_ret ?_
        refine B_r ?_
        refine T_r ?_
        refine T_r ?_
        refine B_r ?_
        refine T_r ?_
        exact F_ret1 E Try.results56 rfl ⟨_, rfl, M_2, hM_2, (bF (by (first | (simp; done) | exact eqp_no (by assumption) (by assumption) (p2_ne (by assumption)) | (have h9 : l0.take k = l1.take k := (by assumption); rwa [List.take_of_length_le (by omega), List.take_of_length_le (by omega)] at h9) | (intro h9; subst h9; omega) | (intro h9; subst h9; simp_all; done)))), S⟩
      · replace hc_8 := of_decide_eq_false hc_8
        refine WP_skip ?_
        refine B_n ?_
        refine T_n ?_
        refine WP_region ?_
        refine S_v E rfl (R_addx (m := ((k + 1 : Nat) : Int)) E rfl rfl (by omega) (by omega)) rfl ?_
        clear E a; intro a E
        refine S_v E rfl (R_move E rfl) rfl ?_
        clear E a; intro a E
        refine WL_nil ?_
        refine T_n ?_
        exact ⟨k + 1, ⟨M_2, hM_2, S, E.keep ⟨rfl, rfl, rfl, rfl, trivial⟩, by ((try clear S); (try clear E); first | assumption | omega | rfl | (simp; done) | (simp_all; done) | (simp [List.take_add_one, *]; done) | grind [List.take_add_one]), by ((try clear S); (try clear E); first | assumption | omega | rfl | (simp; done) | (simp_all; done) | (simp [List.take_add_one, *]; done) | grind [List.take_add_one]), (by exact eqp_step (by assumption) (by assumption) (by assumption) (p2_eq (by first | assumption | exact Decidable.not_not.1 (by assumption))))⟩, by omega⟩
    · replace hc_3 := of_decide_eq_false hc_3
      refine WP_exit ?_
      refine T_x ?_
      refine T_x ?_
      refine B_x ?_
      refine T_n ?_
      refine WP_seq ?_
      refine WP_region ?_
      refine S_v E rfl (R_assign E rfl) rfl ?_
      clear E a; intro a E
      refine WL_nil ?_
      refine T_n ?_
      refine WP_ret ?_
      exact F_ret1 E Try.results56 rfl ⟨_, rfl, M_2, hM_2, (bT (by (first | (simp; done) | exact eqp_no (by assumption) (by assumption) (p2_ne (by assumption)) | (have h9 : l0.take k = l1.take k := (by assumption); rwa [List.take_of_length_le (by omega), List.take_of_length_le (by omega)] at h9) | (intro h9; subst h9; omega) | (intro h9; subst h9; simp_all; done)))), S⟩

set_option maxRecDepth 100000 in
set_option maxHeartbeats 4000000 in
theorem lo_CrossJoinBy3 {M : Hp} {v0 v1 v2 : Value} {l0 l1 l2 : List Int} (h0 : RdI M v0 l0) (h1 : RdI M v1 l1) (h2 : RdI M v2 l2) {v3 : Value} {f3 : Int → Int → Int → Int × Int × Int} (h3 : PF3P Try.prog v3 M f3) (hb0 : l0.length ≤ 1000) (hb1 : l1.length ≤ 1000) (hb2 : l2.length ≤ 1000) :
    Pu Try.prog (.func (.func 152) #[] #[]) M [v0, v1, v2, v3] (fun r M' => RdS 3 RP3 M' r (crossG f3 l0 l1 l2)) := by
  refine Pu_enter Try.func152 rfl Try.ntmps152 rfl Try.call152 ?_
  intro a w M1 H hM1 S E
  replace h0 := h0.le hM1
  replace h1 := h1.le hM1
  replace h2 := h2.le hM1
  replace h3 := h3.le hM1
  have b0 := h0.bound
  have b1 := h1.bound
  have b2 := h2.bound
  have hmul1 : l1.length * l2.length ≤ 1000 * 1000 := Nat.mul_le_mul hb1 hb2
  have hmul : l0.length * (l1.length * l2.length) ≤ 1000 * (1000 * 1000) := Nat.mul_le_mul hb0 hmul1
  have hmul0 : l0.length * l1.length ≤ 1000 * 1000 := Nat.mul_le_mul hb0 hb1
  have hmul2 : l0.length * l1.length * l2.length = l0.length * (l1.length * l2.length) := Nat.mul_assoc ..
  refine WP_seq ?_
  refine WP_region ?_
  refine S_v E rfl (R_assign E rfl) rfl ?_
  clear E a; intro a E
  refine WL_nil ?_
  refine T_n ?_
  refine WP_seq ?_
  refine WP_region ?_
  refine S_v E rfl (R_move E rfl) rfl ?_
  clear E a; intro a E
  refine S_v E rfl (R_lenV E rfl T24 h0.len) rfl ?_
  clear E a; intro a E
  refine S_v E rfl (R_move E rfl) rfl ?_
  clear E a; intro a E
  refine S_v E rfl (R_lenV E rfl T24 h1.len) rfl ?_
  clear E a; intro a E
  refine S_v E rfl (R_mulx (m := ((((l0).length) * ((l1).length) : Nat) : Int)) E rfl rfl (by omega) (by omega)) rfl ?_
  clear E a; intro a E
  refine S_v E rfl (R_move E rfl) rfl ?_
  clear E a; intro a E
  refine S_v E rfl (R_lenV E rfl T24 h2.len) rfl ?_
  clear E a; intro a E
  refine S_v E rfl (R_mulx (m := (((((l0).length) * ((l1).length)) * ((l2).length) : Nat) : Int)) E rfl rfl (by omega) (by omega)) rfl ?_
  clear E a; intro a E
  refine S_v E rfl (R_assign E rfl) rfl ?_
  clear E a; intro a E
  refine WL_nil ?_
  refine T_n ?_
  refine WP_seq ?_
  refine WP_seq ?_
  refine WP_region ?_
  refine S_v E rfl (R_move E rfl) rfl ?_
  clear E a; intro a E
  refine S_v E rfl (R_eql E rfl rfl) rfl ?_
  clear E a; intro a E
  refine WL_nil ?_
  refine T_n ?_
  refine WP_cond E rfl (fun hc_1 => ?_) (fun hc_1 => ?_)
  · replace hc_1 := of_decide_eq_true hc_1
    refine WP_seq ?_
    refine WP_region ?_
    refine S_x (X_buildA0 E S rfl T110 ?_)
    clear E a S; rintro a w v_2 E S
    have hr_3 : RowsR RP3 3 M1 ([] : List (Int × Int × Int)) [] := RowsR.nil
    replace S : St w M1 (OwnC 112 3 v_2 ([] : List (Int × Int × Int)).length [] :: _) := S
    refine S_v E rfl (R_assign E rfl) rfl ?_
    clear E a; intro a E
    refine WL_nil ?_
    refine T_n ?_
    refine WP_ret ?_
    refine T_r ?_
    have S0 := S; clear S
    obtain ⟨M_4, hM_4, hz_5, S⟩ := S0.freezeR hr_3 RP3_mono (by (first | omega | (simp; done) | ((try simp only [cg_len, cr_len, List.length_take]); have h9 := Nat.mul_le_mul_right (l1.length * l2.length) (Nat.min_le_right k l0.length); omega)))
    clear S0
    replace h0 := h0.le hM_4
    replace h1 := h1.le hM_4
    replace h2 := h2.le hM_4
    replace h3 := h3.le hM_4
    exact F_ret1 E Try.results152 rfl ⟨_, rfl, M_4, hM_4, (by rw [show (crossG f3 l0 l1 l2) = ([] : List (Int × Int × Int)) from by first | exact cg_zero (by assumption) | exact (cg_zero (by assumption)).symm | (rw [List.take_of_length_le (by omega)])]; exact hz_5), S⟩
  · replace hc_1 := of_decide_eq_false hc_1
    refine WP_skip ?_
    refine T_n ?_
    refine WP_seq ?_
    refine WP_region ?_
    refine S_v E rfl (R_move E rfl) rfl ?_
    clear E a; intro a E
    refine S_x (X_make0 (k := (((l0).length) * ((l1).length)) * ((l2).length)) E S rfl rfl rfl T110 rfl (by omega) (by omega) (by omega) ?_)
    clear E a S; rintro a w v_6 E S
    have hr_7 : RowsR RP3 3 M1 ([] : List (Int × Int × Int)) [] := RowsR.nil
    replace S : St w M1 (OwnC 112 3 v_6 ([] : List (Int × Int × Int)).length [] :: _) := S
    refine S_v E rfl (R_assign E rfl) rfl ?_
    clear E a; intro a E
    refine WL_nil ?_
    refine T_n ?_
    refine WP_seq ?_
    refine WP_seq ?_
    refine WP_region ?_
    refine S_v E rfl (R_move E rfl) rfl ?_
    clear E a; intro a E
    refine S_v E rfl (R_lenV E rfl T24 h0.len) rfl ?_
    clear E a; intro a E
    refine S_v E rfl (R_move E rfl) rfl ?_
    clear E a; intro a E
    refine WL_nil ?_
    refine T_n ?_
    refine WP_block ?_
    have hre : ([] : List (Int × Int × Int)) = crossG f3 (l0.take 0) l1 l2 := by first | (simp [crossG]; done) | exact cg_end1 (by assumption) (by omega)
    replace S := S.reR hre
    replace hr_7 := hr_7.eq hre
    clear hre
    refine WP_loop (γ := Nat) (fun (k : Nat) a w => ∃ (M_8 : Hp) (u10 : Value) (xs10 : List Value), Hp.le M1 M_8 ∧ St w M_8 (OwnC 112 3 u10 (crossG f3 (l0.take k) l1 l2).length xs10 :: H) ∧ Env a 60 [] [(1, v1), (2, v2), (3, v3), (10, u10), (30, v0), (31, .int .i64 (((l0).length : Nat) : Int)), (32, .int .i64 ((k : Nat) : Int))] ∧ (k ≤ (l0).length) ∧ RowsR RP3 3 M_8 (crossG f3 (l0.take k) l1 l2) xs10) (fun k => ((l0).length) - k) 0 ⟨M1, _, _, Hp.le.refl _, S, E.keep ⟨rfl, rfl, rfl, rfl, rfl, rfl, rfl, trivial⟩, by ((try clear S); (try clear E); first | assumption | omega | rfl | (simp; done) | (simp_all; done) | (simp [List.take_add_one, *]; done) | grind [List.take_add_one]), hr_7⟩ ?_
    try clear E
    try clear S
    try clear a
    try clear w
    rintro k a w ⟨M_8, u10, xs10, hM_8, S, E, hL0_0, hr10⟩
    replace h0 := h0.le hM_8
    replace h1 := h1.le hM_8
    replace h2 := h2.le hM_8
    replace h3 := h3.le hM_8
    refine WP_seq ?_
    refine WP_region ?_
    refine S_v E rfl (R_lss E rfl rfl) rfl ?_
    clear E a; intro a E
    refine WL_nil ?_
    refine T_n ?_
    refine WP_seq ?_
    refine WP_cond E rfl (fun hc_9 => ?_) (fun hc_9 => ?_)
    · replace hc_9 := of_decide_eq_true hc_9
      refine WP_skip ?_
      refine T_n ?_
      refine WP_seq ?_
      refine WP_block ?_
      refine WP_seq ?_
      refine WP_region ?_
      obtain ⟨x_10, hx_10⟩ : ∃ x, (l0)[k]? = some x := ⟨_, List.getElem?_eq_getElem (by first | omega | (simp; done) | (simp; omega) | (simp_all; omega))⟩
      obtain ⟨p_11, hp_11, qp_11⟩ := h0.at hx_10
      refine S_v E rfl (R_idx E rfl rfl T24 hp_11 rfl) rfl ?_
      clear E a; intro a E
      refine S_v E rfl (R_loadM E rfl Try.isAgg3 S.imm qp_11) rfl ?_
      clear E a; intro a E
      refine S_v E rfl (R_assign E rfl) rfl ?_
      clear E a; intro a E
      refine WL_nil ?_
      refine T_n ?_
      refine WP_seq ?_
      refine WP_region ?_
      refine S_v E rfl (R_move E rfl) rfl ?_
      clear E a; intro a E
      refine S_v E rfl (R_lenV E rfl T24 h1.len) rfl ?_
      clear E a; intro a E
      refine S_v E rfl (R_move E rfl) rfl ?_
      clear E a; intro a E
      refine WL_nil ?_
      refine T_n ?_
      refine WP_block ?_
      have hre : crossG f3 (l0.take k) l1 l2 = crossG f3 (l0.take k) l1 l2 ++ crossF (f3 (l0[k]?.getD 0)) (l1.take 0) l2 := by first | exact cg_start1 _ _ _ _ _ _ | exact cg_end2 (by assumption) (by omega)
      replace S := S.reR hre
      replace hr10 := hr10.eq hre
      clear hre
      refine WP_loop (γ := Nat) (fun (j : Nat) a w => ∃ (M_12 : Hp) (u10 : Value) (xs10 : List Value), Hp.le M_8 M_12 ∧ St w M_12 (OwnC 112 3 u10 (crossG f3 (l0.take k) l1 l2 ++ crossF (f3 (l0[k]?.getD 0)) (l1.take j) l2).length xs10 :: H) ∧ Env a 60 [] [(1, v1), (2, v2), (3, v3), (10, u10), (12, .int .i64 x_10), (30, v0), (31, .int .i64 (((l0).length : Nat) : Int)), (32, .int .i64 ((k : Nat) : Int)), (36, v1), (37, .int .i64 (((l1).length : Nat) : Int)), (38, .int .i64 ((j : Nat) : Int))] ∧ (j ≤ (l1).length) ∧ RowsR RP3 3 M_12 (crossG f3 (l0.take k) l1 l2 ++ crossF (f3 (l0[k]?.getD 0)) (l1.take j) l2) xs10) (fun j => ((l1).length) - j) 0 ⟨M_8, _, _, Hp.le.refl _, S, E.keep ⟨rfl, rfl, rfl, rfl, rfl, rfl, rfl, rfl, rfl, rfl, rfl, trivial⟩, by ((try clear S); (try clear E); first | assumption | omega | rfl | (simp; done) | (simp_all; done) | (simp [List.take_add_one, *]; done) | grind [List.take_add_one]), hr10⟩ ?_
      try clear E
      try clear S
      try clear a
      try clear w
      rintro j a w ⟨M_12, u10, xs10, hM_12, S, E, hL1_0, hr10⟩
      replace h0 := h0.le hM_12
      replace h1 := h1.le hM_12
      replace h2 := h2.le hM_12
      replace h3 := h3.le hM_12
      refine WP_seq ?_
      refine WP_region ?_
      refine S_v E rfl (R_lss E rfl rfl) rfl ?_
      clear E a; intro a E
      refine WL_nil ?_
      refine T_n ?_
      refine WP_seq ?_
      refine WP_cond E rfl (fun hc_13 => ?_) (fun hc_13 => ?_)
      · replace hc_13 := of_decide_eq_true hc_13
        refine WP_skip ?_
        refine T_n ?_
        refine WP_seq ?_
        refine WP_block ?_
        refine WP_seq ?_
        refine WP_region ?_
        obtain ⟨x_14, hx_14⟩ : ∃ x, (l1)[j]? = some x := ⟨_, List.getElem?_eq_getElem (by first | omega | (simp; done) | (simp; omega) | (simp_all; omega))⟩
        obtain ⟨p_15, hp_15, qp_15⟩ := h1.at hx_14
        refine S_v E rfl (R_idx E rfl rfl T24 hp_15 rfl) rfl ?_
        clear E a; intro a E
        refine S_v E rfl (R_loadM E rfl Try.isAgg3 S.imm qp_15) rfl ?_
        clear E a; intro a E
        refine S_v E rfl (R_assign E rfl) rfl ?_
        clear E a; intro a E
        refine WL_nil ?_
        refine T_n ?_
        refine WP_seq ?_
        refine WP_region ?_
        refine S_v E rfl (R_move E rfl) rfl ?_
        clear E a; intro a E
        refine S_v E rfl (R_lenV E rfl T24 h2.len) rfl ?_
        clear E a; intro a E
        refine S_v E rfl (R_move E rfl) rfl ?_
        clear E a; intro a E
        refine WL_nil ?_
        refine T_n ?_
        refine WP_block ?_
        have hre : crossG f3 (l0.take k) l1 l2 ++ crossF (f3 (l0[k]?.getD 0)) (l1.take j) l2 = crossG f3 (l0.take k) l1 l2 ++ crossF (f3 (l0[k]?.getD 0)) (l1.take j) l2 ++ (l2.take 0).map (f3 (l0[k]?.getD 0) (l1[j]?.getD 0)) := by first | exact cg_start2 _ _ _ _ _ _ _ _ | exact cg_step (by assumption) (by assumption) (by assumption)
        replace S := S.reR hre
        replace hr10 := hr10.eq hre
        clear hre
        refine WP_loop (γ := Nat) (fun (m : Nat) a w => ∃ (M_16 : Hp) (u10 : Value) (xs10 : List Value), Hp.le M_12 M_16 ∧ St w M_16 (OwnC 112 3 u10 (crossG f3 (l0.take k) l1 l2 ++ crossF (f3 (l0[k]?.getD 0)) (l1.take j) l2 ++ (l2.take m).map (f3 (l0[k]?.getD 0) (l1[j]?.getD 0))).length xs10 :: H) ∧ Env a 60 [] [(1, v1), (2, v2), (3, v3), (10, u10), (12, .int .i64 x_10), (14, .int .i64 x_14), (30, v0), (31, .int .i64 (((l0).length : Nat) : Int)), (32, .int .i64 ((k : Nat) : Int)), (36, v1), (37, .int .i64 (((l1).length : Nat) : Int)), (38, .int .i64 ((j : Nat) : Int)), (42, v2), (43, .int .i64 (((l2).length : Nat) : Int)), (44, .int .i64 ((m : Nat) : Int))] ∧ (m ≤ (l2).length) ∧ RowsR RP3 3 M_16 (crossG f3 (l0.take k) l1 l2 ++ crossF (f3 (l0[k]?.getD 0)) (l1.take j) l2 ++ (l2.take m).map (f3 (l0[k]?.getD 0) (l1[j]?.getD 0))) xs10) (fun m => ((l2).length) - m) 0 ⟨M_12, _, _, Hp.le.refl _, S, E.keep ⟨rfl, rfl, rfl, rfl, rfl, rfl, rfl, rfl, rfl, rfl, rfl, rfl, rfl, rfl, rfl, trivial⟩, by ((try clear S); (try clear E); first | assumption | omega | rfl | (simp; done) | (simp_all; done) | (simp [List.take_add_one, *]; done) | grind [List.take_add_one]), hr10⟩ ?_
        try clear E
        try clear S
        try clear a
        try clear w
        rintro m a w ⟨M_16, u10, xs10, hM_16, S, E, hL2_0, hr10⟩
        replace h0 := h0.le hM_16
        replace h1 := h1.le hM_16
        replace h2 := h2.le hM_16
        replace h3 := h3.le hM_16
        have hcb := cg_bnd2 f3 l0 l1 l2 k j m (l0[k]?.getD 0) (l1[j]?.getD 0)
        refine WP_seq ?_
        refine WP_region ?_
        refine S_v E rfl (R_lss E rfl rfl) rfl ?_
        clear E a; intro a E
        refine WL_nil ?_
        refine T_n ?_
        refine WP_seq ?_
        refine WP_cond E rfl (fun hc_17 => ?_) (fun hc_17 => ?_)
        · replace hc_17 := of_decide_eq_true hc_17
          refine WP_skip ?_
          refine T_n ?_
          refine WP_seq ?_
          refine WP_block ?_
          refine WP_seq ?_
          refine WP_region ?_
          obtain ⟨x_18, hx_18⟩ : ∃ x, (l2)[m]? = some x := ⟨_, List.getElem?_eq_getElem (by first | omega | (simp; done) | (simp; omega) | (simp_all; omega))⟩
          obtain ⟨p_19, hp_19, qp_19⟩ := h2.at hx_18
          refine S_v E rfl (R_idx E rfl rfl T24 hp_19 rfl) rfl ?_
          clear E a; intro a E
          refine S_v E rfl (R_loadM E rfl Try.isAgg3 S.imm qp_19) rfl ?_
          clear E a; intro a E
          refine S_v E rfl (R_assign E rfl) rfl ?_
          clear E a; intro a E
          refine WL_nil ?_
          refine T_n ?_
          refine WP_region ?_
          refine S_v E rfl (R_move E rfl) rfl ?_
          clear E a; intro a E
          refine S_v E rfl (R_move E rfl) rfl ?_
          clear E a; intro a E
          refine S_v E rfl (R_move E rfl) rfl ?_
          clear E a; intro a E
          refine S_v E rfl (R_move E rfl) rfl ?_
          clear E a; intro a E
          refine S_v E rfl (R_move E rfl) rfl ?_
          clear E a; intro a E
          refine S_x (X_pu E S rfl rfl rfl (h3.2 x_10 x_14 x_18) (Hp.le.refl _) ?_)
          clear E a S; rintro a _ w M_20 hM_20 rfl S E
          replace h0 := h0.le hM_20
          replace h1 := h1.le hM_20
          replace h2 := h2.le hM_20
          replace h3 := h3.le hM_20
          replace hr10 := hr10.le RP3_mono hM_20
          refine S_x (X_buildA1 (R := RP3) (cs := [.int .i64 ((f3 x_10 x_14 x_18).1), .int .i64 ((f3 x_10 x_14 x_18).2.1), .int .i64 ((f3 x_10 x_14 x_18).2.2)]) (x0 := (f3 x_10 x_14 x_18)) RP3_mono E S rfl T110 rfl rfl rfl rfl ?_)
          clear E a S; rintro a v_21 w M_22 hM_22 hv_21 S E
          replace h0 := h0.le hM_22
          replace h1 := h1.le hM_22
          replace h2 := h2.le hM_22
          replace h3 := h3.le hM_22
          replace hr10 := hr10.le RP3_mono hM_22
          refine S_x (X_appendR (R := RP3) (zs := crossG f3 (l0.take k) l1 l2 ++ crossF (f3 (l0[k]?.getD 0)) (l1.take j) l2 ++ (l2.take m).map (f3 (l0[k]?.getD 0) (l1[j]?.getD 0))) (ys := [(f3 x_10 x_14 x_18)]) E S hr10 rfl rfl rfl T110 hv_21 one_RP3 (by (first | omega | (simp only [List.length_append, List.length_cons, List.length_nil] at hcb ⊢; omega))) (by (first | omega | (simp only [List.length_append, List.length_cons, List.length_nil] at hcb ⊢; omega))) ?_)
          clear E a S; rintro a w v_23 xs_24 E hr_25 S
          refine S_v E rfl (R_assign E rfl) rfl ?_
          clear E a; intro a E
          refine WL_nil ?_
          refine B_n ?_
          refine T_n ?_
          refine WP_region ?_
          refine S_v E rfl (R_addx (m := ((m + 1 : Nat) : Int)) E rfl rfl (by omega) (by omega)) rfl ?_
          clear E a; intro a E
          refine S_v E rfl (R_move E rfl) rfl ?_
          clear E a; intro a E
          refine WL_nil ?_
          refine T_n ?_
          have hre : (crossG f3 (l0.take k) l1 l2 ++ crossF (f3 (l0[k]?.getD 0)) (l1.take j) l2 ++ (l2.take m).map (f3 (l0[k]?.getD 0) (l1[j]?.getD 0))) ++ [(f3 x_10 x_14 x_18)] = crossG f3 (l0.take k) l1 l2 ++ crossF (f3 (l0[k]?.getD 0)) (l1.take j) l2 ++ (l2.take (m + 1)).map (f3 (l0[k]?.getD 0) (l1[j]?.getD 0)) := by first | exact cg_start2 _ _ _ _ _ _ _ _ | exact cg_step (by assumption) (by assumption) (by assumption)
          replace S := S.reR hre
          replace hr_25 := hr_25.eq hre
          clear hre
          exact ⟨m + 1, ⟨M_22, _, _, (hM_16.trans (hM_20.trans hM_22)), S, E.keep ⟨rfl, rfl, rfl, rfl, rfl, rfl, rfl, rfl, rfl, rfl, rfl, rfl, rfl, rfl, rfl, trivial⟩, by ((try clear S); (try clear E); first | assumption | omega | rfl | (simp; done) | (simp_all; done) | (simp [List.take_add_one, *]; done) | grind [List.take_add_one]), hr_25⟩, by omega⟩
        · replace hc_17 := of_decide_eq_false hc_17
          refine WP_exit ?_
          refine T_x ?_
          refine T_x ?_
          refine B_x ?_
          refine B_n ?_
          refine T_n ?_
          refine WP_region ?_
          refine S_v E rfl (R_addx (m := ((j + 1 : Nat) : Int)) E rfl rfl (by omega) (by omega)) rfl ?_
          clear E a; intro a E
          refine S_v E rfl (R_move E rfl) rfl ?_
          clear E a; intro a E
          refine WL_nil ?_
          refine T_n ?_
          have hre : crossG f3 (l0.take k) l1 l2 ++ crossF (f3 (l0[k]?.getD 0)) (l1.take j) l2 ++ (l2.take m).map (f3 (l0[k]?.getD 0) (l1[j]?.getD 0)) = crossG f3 (l0.take k) l1 l2 ++ crossF (f3 (l0[k]?.getD 0)) (l1.take (j + 1)) l2 := by first | exact cg_start1 _ _ _ _ _ _ | exact cg_end2 (by assumption) (by omega)
          replace S := S.reR hre
          replace hr10 := hr10.eq hre
          clear hre
          exact ⟨j + 1, ⟨M_16, _, _, (hM_12.trans hM_16), S, E.keep ⟨rfl, rfl, rfl, rfl, rfl, rfl, rfl, rfl, rfl, rfl, rfl, trivial⟩, by ((try clear S); (try clear E); first | assumption | omega | rfl | (simp; done) | (simp_all; done) | (simp [List.take_add_one, *]; done) | grind [List.take_add_one]), hr10⟩, by omega⟩
      · replace hc_13 := of_decide_eq_false hc_13
        refine WP_exit ?_
        refine T_x ?_
        refine T_x ?_
        refine B_x ?_
        refine B_n ?_
        refine T_n ?_
        refine WP_region ?_
        refine S_v E rfl (R_addx (m := ((k + 1 : Nat) : Int)) E rfl rfl (by omega) (by omega)) rfl ?_
        clear E a; intro a E
        refine S_v E rfl (R_move E rfl) rfl ?_
        clear E a; intro a E
        refine WL_nil ?_
        refine T_n ?_
        have hre : crossG f3 (l0.take k) l1 l2 ++ crossF (f3 (l0[k]?.getD 0)) (l1.take j) l2 = crossG f3 (l0.take (k + 1)) l1 l2 := by first | (simp [crossG]; done) | exact cg_end1 (by assumption) (by omega)
        replace S := S.reR hre
        replace hr10 := hr10.eq hre
        clear hre
        exact ⟨k + 1, ⟨M_12, _, _, (hM_8.trans hM_12), S, E.keep ⟨rfl, rfl, rfl, rfl, rfl, rfl, rfl, trivial⟩, by ((try clear S); (try clear E); first | assumption | omega | rfl | (simp; done) | (simp_all; done) | (simp [List.take_add_one, *]; done) | grind [List.take_add_one]), hr10⟩, by omega⟩
    · replace hc_9 := of_decide_eq_false hc_9
      refine WP_exit ?_
      refine T_x ?_
      refine T_x ?_
      refine B_x ?_
      refine T_n ?_
      refine WP_seq ?_
      refine WP_region ?_
      refine S_v E rfl (R_move E rfl) rfl ?_
      clear E a; intro a E
      refine S_v E rfl (R_assign E rfl) rfl ?_
      clear E a; intro a E
      refine WL_nil ?_
      refine T_n ?_
      refine WP_ret ?_
      have S0 := S; clear S
      obtain ⟨M_26, hM_26, hz_27, S⟩ := S0.freezeR hr10 RP3_mono (by (first | omega | (simp; done) | ((try simp only [cg_len, cr_len, List.length_take]); have h9 := Nat.mul_le_mul_right (l1.length * l2.length) (Nat.min_le_right k l0.length); omega)))
      clear S0
      replace h0 := h0.le hM_26
      replace h1 := h1.le hM_26
      replace h2 := h2.le hM_26
      replace h3 := h3.le hM_26
      exact F_ret1 E Try.results152 rfl ⟨_, rfl, M_26, (hM_8.trans hM_26), (by rw [show (crossG f3 l0 l1 l2) = (crossG f3 (l0.take k) l1 l2) from by first | exact cg_zero (by assumption) | exact (cg_zero (by assumption)).symm | (rw [List.take_of_length_le (by omega)])]; exact hz_27), S⟩

set_option maxRecDepth 100000 in
set_option maxHeartbeats 4000000 in
theorem lo_T3 {M : Hp} {x0 x1 x2 : Int} :
    Pu Try.prog (.func (.func 153) #[] #[]) M [.int .i64 x0, .int .i64 x1, .int .i64 x2] (fun r M' => r = .agg #[.int .i64 x0, .int .i64 x1, .int .i64 x2]) := by
  refine Pu_enter Try.func153 rfl Try.ntmps153 rfl Try.call153 ?_
  intro a w M1 H hM1 S E
  refine WP_seq ?_
  refine WP_region ?_
  refine S_x (X_alloc (cs := #[.int .i64 0, .int .i64 0, .int .i64 0]) E S rfl Try.zeroValue112 rfl ?_)
  clear E a S; rintro a w b_1 E S
  refine WL_nil ?_
  refine T_n ?_
  refine WP_seq ?_
  refine WP_region ?_
  refine S_v E rfl (R_move E rfl) rfl ?_
  clear E a; intro a E
  refine S_v E rfl (R_move E rfl) rfl ?_
  clear E a; intro a E
  refine S_v E rfl (R_move E rfl) rfl ?_
  clear E a; intro a E
  refine S_v E rfl (R_build (u := .agg #[.int .i64 x0, .int .i64 x1, .int .i64 x2]) (vs := [.int .i64 x0, .int .i64 x1, .int .i64 x2]) E rfl (fun w => FB112_0_1_2_iii x0 x1 x2 w)) rfl ?_
  clear E a; intro a E
  refine S_x0 (X_storeG (us := [.int .i64 x0, .int .i64 x1, .int .i64 x2]) E S rfl rfl (Try.sizeOf112 _) rfl (by intro u hu; simp only [List.mem_cons, List.not_mem_nil, or_false] at hu; rcases hu with rfl | rfl | rfl <;> first | exact rfl | exact rfl | exact rfl) ?_)
  clear E a S; rintro a w E S
  replace S : St w M1 (blk b_1 (.cells #[.int .i64 x0, .int .i64 x1, .int .i64 x2] 112) :: _) := S
  refine WL_nil ?_
  refine T_n ?_
  refine WP_ret ?_
  replace S : St w M1 (mks [] :: _) := S.empty
  replace E : Env a 11 (([] : List Nat).map mk) _ := E
  replace S := S.front1
  replace S := S.front1
  exact F_retCG1 (cs := [.int .i64 x0, .int .i64 x1, .int .i64 x2]) E S Try.results153 rfl (fun w => Try.isAgg112 w) (fun w => Try.sizeOf112 w) (fun w S => ⟨_, rfl, M1, (Hp.le.refl _), rfl, S.drop⟩)

set_option maxRecDepth 100000 in
set_option maxHeartbeats 4000000 in
theorem lo_CrossJoin3 {M : Hp} {v0 v1 v2 : Value} {l0 l1 l2 : List Int} (h0 : RdI M v0 l0) (h1 : RdI M v1 l1) (h2 : RdI M v2 l2) (hb0 : l0.length ≤ 1000) (hb1 : l1.length ≤ 1000) (hb2 : l2.length ≤ 1000) :
    Pu Try.prog (.func (.func 115) #[] #[]) M [v0, v1, v2] (fun r M' => RdS 3 RP3 M' r (crossG (fun x y z => (x, y, z)) l0 l1 l2)) := by
  refine Pu_enter Try.func115 rfl Try.ntmps115 rfl Try.call115 ?_
  intro a w M1 H hM1 S E
  replace h0 := h0.le hM1
  replace h1 := h1.le hM1
  replace h2 := h2.le hM1
  have b0 := h0.bound
  have b1 := h1.bound
  have b2 := h2.bound
  refine WP_seq ?_
  refine WP_region ?_
  refine S_v E rfl (R_assign E rfl) rfl ?_
  clear E a; intro a E
  refine WL_nil ?_
  refine T_n ?_
  refine WP_seq ?_
  refine WP_region ?_
  refine S_v E rfl (R_move E rfl) rfl ?_
  clear E a; intro a E
  refine S_v E rfl (R_move E rfl) rfl ?_
  clear E a; intro a E
  refine S_v E rfl (R_move E rfl) rfl ?_
  clear E a; intro a E
  refine S_x (X_pu E S rfl rfl rfl (lo_CrossJoinBy3 h0 h1 h2 (f3 := (fun x y z => (x, y, z))) ⟨rfl, fun zx0 zx1 zx2 => lo_T3 (x0 := zx0) (x1 := zx1) (x2 := zx2) ⟩ (by first | omega | decide) (by first | omega | decide) (by first | omega | decide)) (Hp.le.refl _) ?_)
  clear E a S; rintro a v_2 w M_1 hM_1 hv_2 S E
  replace h0 := h0.le hM_1
  replace h1 := h1.le hM_1
  replace h2 := h2.le hM_1
  refine S_v E rfl (R_assign E rfl) rfl ?_
  clear E a; intro a E
  refine WL_nil ?_
  refine T_n ?_
  refine WP_ret ?_
  exact F_ret1 E Try.results115 rfl ⟨_, rfl, M_1, hM_1, hv_2, S⟩

set_option maxRecDepth 100000 in
set_option maxHeartbeats 4000000 in
theorem impl_CrossJoin3 {M : Hp} {v0 v1 v2 : Value} {l0 l1 l2 : List Int} (h0 : RdI M v0 l0) (h1 : RdI M v1 l1) (h2 : RdI M v2 l2) (hb0 : l0.length ≤ 1000) (hb1 : l1.length ≤ 1000) (hb2 : l2.length ≤ 1000) :
    Pu Try.prog (.func (.func 58) #[] #[]) M [v0, v1, v2] (fun r M' => RdS 3 RP3 M' r (crossG (fun x y z => (x, y, z)) l0 l1 l2)) := by
  refine Pu_enter Try.func58 rfl Try.ntmps58 rfl Try.call58 ?_
  intro a w M1 H hM1 S E
  replace h0 := h0.le hM1
  replace h1 := h1.le hM1
  replace h2 := h2.le hM1
  have b0 := h0.bound
  have b1 := h1.bound
  have b2 := h2.bound
  have hmul1 : l1.length * l2.length ≤ 1000 * 1000 := Nat.mul_le_mul hb1 hb2
  have hmul : l0.length * (l1.length * l2.length) ≤ 1000 * (1000 * 1000) := Nat.mul_le_mul hb0 hmul1
  have hmul0 : l0.length * l1.length ≤ 1000 * 1000 := Nat.mul_le_mul hb0 hb1
  have hmul2 : l0.length * l1.length * l2.length = l0.length * (l1.length * l2.length) := Nat.mul_assoc ..
  have hcl := cg_len (fun x y z => (x, y, z)) l1 l2 l0
  refine WP_seq ?_
  refine WP_region ?_
  refine S_v E rfl (R_assign E rfl) rfl ?_
  clear E a; intro a E
  refine WL_nil ?_
  refine T_n ?_
  refine WP_seq ?_
  refine WP_region ?_
  refine S_v E rfl (R_assign E rfl) rfl ?_
  clear E a; intro a E
  refine WL_nil ?_
  refine T_n ?_
  refine WP_seq ?_
  refine WP_seq ?_
  refine WP_region ?_
  refine S_v E rfl (R_move E rfl) rfl ?_
  clear E a; intro a E
  refine S_v E rfl (R_move E rfl) rfl ?_
  clear E a; intro a E
  refine S_v E rfl (R_move E rfl) rfl ?_
  clear E a; intro a E
  refine S_x (X_pu E S rfl rfl rfl (lo_CrossJoin3 h0 h1 h2 (by first | omega | decide) (by first | omega | decide) (by first | omega | decide)) (Hp.le.refl _) ?_)
  clear E a S; rintro a v_2 w M_1 hM_1 hv_2 S E
  replace h0 := h0.le hM_1
  replace h1 := h1.le hM_1
  replace h2 := h2.le hM_1
  refine S_v E rfl (R_lenV E rfl T110 hv_2.len) rfl ?_
  clear E a; intro a E
  refine S_v E rfl (R_move E rfl) rfl ?_
  clear E a; intro a E
  refine WL_nil ?_
  refine T_n ?_
  refine WP_block ?_
  replace S : St w M_1 (OwnC 64 3 (.slice none 0 0) ([] : List (Int × Int × Int)).length [] :: _) := S.ownNil
  have hr_4 : RowsR RP3 3 M_1 ([] : List (Int × Int × Int)) [] := RowsR.nil
  have hre : ([] : List (Int × Int × Int)) = (crossG (fun x y z => (x, y, z)) l0 l1 l2).take 0 := by first | (simp; done) | exact (tk_snoc (by assumption)).symm
  replace S := S.reR hre
  replace hr_4 := hr_4.eq hre
  clear hre
  refine WP_loop (γ := Nat) (fun (k : Nat) a w => ∃ (M_5 : Hp) (u7 : Value) (xs7 : List Value), Hp.le M_1 M_5 ∧ St w M_5 (OwnC 64 3 u7 ((crossG (fun x y z => (x, y, z)) l0 l1 l2).take k).length xs7 :: H) ∧ Env a 31 [] [(7, u7), (13, v_2), (14, .int .i64 (((crossG (fun x y z => (x, y, z)) l0 l1 l2).length : Nat) : Int)), (15, .int .i64 ((k : Nat) : Int))] ∧ (k ≤ (crossG (fun x y z => (x, y, z)) l0 l1 l2).length) ∧ RowsR RP3 3 M_5 ((crossG (fun x y z => (x, y, z)) l0 l1 l2).take k) xs7) (fun k => ((crossG (fun x y z => (x, y, z)) l0 l1 l2).length) - k) 0 ⟨M_1, _, _, Hp.le.refl _, S, E.keep ⟨rfl, rfl, rfl, rfl, trivial⟩, by ((try clear S); (try clear E); first | assumption | omega | rfl | (simp; done) | (simp_all; done) | (simp [List.take_add_one, *]; done) | grind [List.take_add_one]), hr_4⟩ ?_
  try clear E
  try clear S
  try clear a
  try clear w
  rintro k a w ⟨M_5, u7, xs7, hM_5, S, E, hL0_0, hr7⟩
  replace h0 := h0.le hM_5
  replace h1 := h1.le hM_5
  replace h2 := h2.le hM_5
  replace hv_2 := hv_2.le RP3_mono hM_5
  refine WP_seq ?_
  refine WP_region ?_
  refine S_v E rfl (R_lss E rfl rfl) rfl ?_
  clear E a; intro a E
  refine WL_nil ?_
  refine T_n ?_
  refine WP_seq ?_
  refine WP_cond E rfl (fun hc_6 => ?_) (fun hc_6 => ?_)
  · replace hc_6 := of_decide_eq_true hc_6
    refine WP_skip ?_
    refine T_n ?_
    refine WP_seq ?_
    refine WP_block ?_
    refine WP_seq ?_
    refine WP_region ?_
    obtain ⟨x_7, hx_7⟩ : ∃ x, (crossG (fun x y z => (x, y, z)) l0 l1 l2)[k]? = some x := ⟨_, List.getElem?_eq_getElem (by first | omega | (simp; done) | (simp; omega) | (simp_all; omega))⟩
    obtain ⟨p_8, hp_8, qp_8⟩ := RdP3.at hv_2 hx_7
    refine S_v E rfl (R_idx E rfl rfl T110 hp_8 rfl) rfl ?_
    clear E a; intro a E
    refine S_v E rfl (R_loadA (cs := [.int .i64 x_7.1, .int .i64 x_7.2.1, .int .i64 x_7.2.2]) E rfl (Try.isAgg112 _) (Try.sizeOf112 _) S.imm qp_8) rfl ?_
    clear E a; intro a E
    refine S_x (X_alloc (cs := #[.int .i64 0, .int .i64 0, .int .i64 0]) E S rfl Try.zeroValue112 rfl ?_)
    clear E a S; rintro a w b_9 E S
    refine S_x0 (X_storeG (us := [.int .i64 x_7.1, .int .i64 x_7.2.1, .int .i64 x_7.2.2]) E S rfl rfl (Try.sizeOf112 _) rfl (by intro u hu; simp only [List.mem_cons, List.not_mem_nil, or_false] at hu; rcases hu with rfl | rfl | rfl <;> first | exact rfl | exact rfl | exact rfl) ?_)
    clear E a S; rintro a w E S
    replace S : St w M_5 (blk b_9 (.cells #[.int .i64 x_7.1, .int .i64 x_7.2.1, .int .i64 x_7.2.2] 112) :: _) := S
    have S0 := S; clear S
    obtain ⟨M_10, hM_10, hb_11, S⟩ := S0.freezeB
    clear S0
    replace h0 := h0.le hM_10
    replace h1 := h1.le hM_10
    replace h2 := h2.le hM_10
    replace hv_2 := hv_2.le RP3_mono hM_10
    replace hr7 := hr7.le RP3_mono hM_10
    refine WL_nil ?_
    refine T_n ?_
    refine WP_region ?_
    refine S_v E rfl (R_move E rfl) rfl ?_
    clear E a; intro a E
    refine S_v E rfl (R_fieldAddr E rfl (FA112_0 _)) rfl ?_
    clear E a; intro a E
    refine S_v E rfl (R_loadM E rfl Try.isAgg3 S.imm (cellM_boxo hb_11 rfl)) rfl ?_
    clear E a; intro a E
    refine S_v E rfl (R_fieldAddr E rfl (FA112_1 _)) rfl ?_
    clear E a; intro a E
    refine S_v E rfl (R_loadM E rfl Try.isAgg3 S.imm (cellM_boxo hb_11 rfl)) rfl ?_
    clear E a; intro a E
    refine S_v E rfl (R_fieldAddr E rfl (FA112_2 _)) rfl ?_
    clear E a; intro a E
    refine S_v E rfl (R_loadM E rfl Try.isAgg3 S.imm (cellM_boxo hb_11 rfl)) rfl ?_
    clear E a; intro a E
    refine S_v E rfl (R_build (u := .agg #[.int .i64 x_7.1, .int .i64 x_7.2.1, .int .i64 x_7.2.2]) (vs := [.int .i64 x_7.1, .int .i64 x_7.2.1, .int .i64 x_7.2.2]) E rfl (fun w => FB64_0_1_2_iii x_7.1 x_7.2.1 x_7.2.2 w)) rfl ?_
    clear E a; intro a E
    refine S_x (X_buildA1 (R := RP3) (cs := [.int .i64 x_7.1, .int .i64 x_7.2.1, .int .i64 x_7.2.2]) (x0 := x_7) RP3_mono E S rfl T56 rfl rfl rfl rfl ?_)
    clear E a S; rintro a v_12 w M_13 hM_13 hv_12 S E
    replace h0 := h0.le hM_13
    replace h1 := h1.le hM_13
    replace h2 := h2.le hM_13
    replace hv_2 := hv_2.le RP3_mono hM_13
    replace hr7 := hr7.le RP3_mono hM_13
    replace hb_11 := hM_13.2 _ _ hb_11
    refine S_x (X_appendR (R := RP3) (zs := (crossG (fun x y z => (x, y, z)) l0 l1 l2).take k) (ys := [x_7]) E S hr7 rfl rfl rfl T56 hv_12 one_RP3 (by (simp only [List.length_take, List.length_cons, List.length_nil]; omega)) (by (simp only [List.length_take, List.length_cons, List.length_nil]; omega)) ?_)
    clear E a S; rintro a w v_14 xs_15 E hr_16 S
    refine S_v E rfl (R_assign E rfl) rfl ?_
    clear E a; intro a E
    refine WL_nil ?_
    refine B_n ?_
    refine T_n ?_
    refine WP_region ?_
    refine S_v E rfl (R_addx (m := ((k + 1 : Nat) : Int)) E rfl rfl (by omega) (by omega)) rfl ?_
    clear E a; intro a E
    refine S_v E rfl (R_move E rfl) rfl ?_
    clear E a; intro a E
    refine WL_nil ?_
    refine T_n ?_
    have hre : ((crossG (fun x y z => (x, y, z)) l0 l1 l2).take k) ++ [x_7] = (crossG (fun x y z => (x, y, z)) l0 l1 l2).take (k + 1) := by first | (simp; done) | exact (tk_snoc (by assumption)).symm
    replace S := S.reR hre
    replace hr_16 := hr_16.eq hre
    clear hre
    exact ⟨k + 1, ⟨M_13, _, _, (hM_5.trans (hM_10.trans hM_13)), S, E.keep ⟨rfl, rfl, rfl, rfl, trivial⟩, by ((try clear S); (try clear E); first | assumption | omega | rfl | (simp; done) | (simp_all; done) | (simp [List.take_add_one, *]; done) | grind [List.take_add_one]), hr_16⟩, by omega⟩
  · replace hc_6 := of_decide_eq_false hc_6
    refine WP_exit ?_
    refine T_x ?_
    refine T_x ?_
    refine B_x ?_
    refine T_n ?_
    refine WP_seq ?_
    refine WP_region ?_
    refine S_v E rfl (R_move E rfl) rfl ?_
    clear E a; intro a E
    refine S_v E rfl (R_assign E rfl) rfl ?_
    clear E a; intro a E
    refine WL_nil ?_
    refine T_n ?_
    refine WP_ret ?_
    have S0 := S; clear S
    obtain ⟨M_17, hM_17, hz_18, S⟩ := S0.freezeR hr7 RP3_mono (by (simp only [List.length_take]; omega))
    clear S0
    replace h0 := h0.le hM_17
    replace h1 := h1.le hM_17
    replace h2 := h2.le hM_17
    replace hv_2 := hv_2.le RP3_mono hM_17
    exact F_ret1 E Try.results58 rfl ⟨_, rfl, M_17, (hM_1.trans (hM_5.trans hM_17)), (by rw [show (crossG (fun x y z => (x, y, z)) l0 l1 l2) = ((crossG (fun x y z => (x, y, z)) l0 l1 l2).take k) from by (rw [List.take_of_length_le (by omega)])]; exact hz_18), S⟩

set_option maxRecDepth 100000 in
set_option maxHeartbeats 4000000 in
theorem spec_CrossJoin3 {M : Hp} {v0 v1 v2 : Value} {l0 l1 l2 : List Int} (h0 : RdI M v0 l0) (h1 : RdI M v1 l1) (h2 : RdI M v2 l2) (hb0 : l0.length ≤ 1000) (hb1 : l1.length ≤ 1000) (hb2 : l2.length ≤ 1000) :
    Pu Try.prog (.func (.func 59) #[] #[]) M [v0, v1, v2] (fun r M' => RdS 3 RP3 M' r (crossG (fun x y z => (x, y, z)) l0 l1 l2)) := by
  refine Pu_enter Try.func59 rfl Try.ntmps59 rfl Try.call59 ?_
  intro a w M1 H hM1 S E
  replace h0 := h0.le hM1
  replace h1 := h1.le hM1
  replace h2 := h2.le hM1
  have b0 := h0.bound
  have b1 := h1.bound
  have b2 := h2.bound
  have hmul1 : l1.length * l2.length ≤ 1000 * 1000 := Nat.mul_le_mul hb1 hb2
  have hmul : l0.length * (l1.length * l2.length) ≤ 1000 * (1000 * 1000) := Nat.mul_le_mul hb0 hmul1
  have hmul0 : l0.length * l1.length ≤ 1000 * 1000 := Nat.mul_le_mul hb0 hb1
  have hmul2 : l0.length * l1.length * l2.length = l0.length * (l1.length * l2.length) := Nat.mul_assoc ..
  refine WP_seq ?_
  refine WP_region ?_
  refine S_v E rfl (R_assign E rfl) rfl ?_
  clear E a; intro a E
  refine WL_nil ?_
  refine T_n ?_
  refine WP_seq ?_
  refine WP_region ?_
  refine S_v E rfl (R_assign E rfl) rfl ?_
  clear E a; intro a E
  refine WL_nil ?_
  refine T_n ?_
  refine WP_seq ?_
  refine WP_seq ?_
  refine WP_region ?_
  refine S_v E rfl (R_move E rfl) rfl ?_
  clear E a; intro a E
  refine S_v E rfl (R_lenV E rfl T24 h0.len) rfl ?_
  clear E a; intro a E
  refine S_v E rfl (R_move E rfl) rfl ?_
  clear E a; intro a E
  refine WL_nil ?_
  refine T_n ?_
  refine WP_block ?_
  replace S : St w M1 (OwnC 72 3 (.slice none 0 0) ([] : List (Int × Int × Int)).length [] :: _) := S.ownNil
  have hr_2 : RowsR RP3 3 M1 ([] : List (Int × Int × Int)) [] := RowsR.nil
  have hre : ([] : List (Int × Int × Int)) = crossG (fun x y z => (x, y, z)) (l0.take 0) l1 l2 := by first | (simp [crossG]; done) | exact cg_end1 (by assumption) (by omega)
  replace S := S.reR hre
  replace hr_2 := hr_2.eq hre
  clear hre
  refine WP_loop (γ := Nat) (fun (k : Nat) a w => ∃ (M_3 : Hp) (u7 : Value) (xs7 : List Value), Hp.le M1 M_3 ∧ St w M_3 (OwnC 72 3 u7 (crossG (fun x y z => (x, y, z)) (l0.take k) l1 l2).length xs7 :: H) ∧ Env a 43 [] [(1, v1), (2, v2), (7, u7), (14, v0), (15, .int .i64 (((l0).length : Nat) : Int)), (16, .int .i64 ((k : Nat) : Int))] ∧ (k ≤ (l0).length) ∧ RowsR RP3 3 M_3 (crossG (fun x y z => (x, y, z)) (l0.take k) l1 l2) xs7) (fun k => ((l0).length) - k) 0 ⟨M1, _, _, Hp.le.refl _, S, E.keep ⟨rfl, rfl, rfl, rfl, rfl, rfl, trivial⟩, by ((try clear S); (try clear E); first | assumption | omega | rfl | (simp; done) | (simp_all; done) | (simp [List.take_add_one, *]; done) | grind [List.take_add_one]), hr_2⟩ ?_
  try clear E
  try clear S
  try clear a
  try clear w
  rintro k a w ⟨M_3, u7, xs7, hM_3, S, E, hL0_0, hr7⟩
  replace h0 := h0.le hM_3
  replace h1 := h1.le hM_3
  replace h2 := h2.le hM_3
  refine WP_seq ?_
  refine WP_region ?_
  refine S_v E rfl (R_lss E rfl rfl) rfl ?_
  clear E a; intro a E
  refine WL_nil ?_
  refine T_n ?_
  refine WP_seq ?_
  refine WP_cond E rfl (fun hc_4 => ?_) (fun hc_4 => ?_)
  · replace hc_4 := of_decide_eq_true hc_4
    refine WP_skip ?_
    refine T_n ?_
    refine WP_seq ?_
    refine WP_block ?_
    refine WP_seq ?_
    refine WP_region ?_
    obtain ⟨x_5, hx_5⟩ : ∃ x, (l0)[k]? = some x := ⟨_, List.getElem?_eq_getElem (by first | omega | (simp; done) | (simp; omega) | (simp_all; omega))⟩
    obtain ⟨p_6, hp_6, qp_6⟩ := h0.at hx_5
    refine S_v E rfl (R_idx E rfl rfl T24 hp_6 rfl) rfl ?_
    clear E a; intro a E
    refine S_v E rfl (R_loadM E rfl Try.isAgg3 S.imm qp_6) rfl ?_
    clear E a; intro a E
    refine S_v E rfl (R_assign E rfl) rfl ?_
    clear E a; intro a E
    refine WL_nil ?_
    refine T_n ?_
    refine WP_seq ?_
    refine WP_region ?_
    refine S_v E rfl (R_move E rfl) rfl ?_
    clear E a; intro a E
    refine S_v E rfl (R_lenV E rfl T24 h1.len) rfl ?_
    clear E a; intro a E
    refine S_v E rfl (R_move E rfl) rfl ?_
    clear E a; intro a E
    refine WL_nil ?_
    refine T_n ?_
    refine WP_block ?_
    have hre : crossG (fun x y z => (x, y, z)) (l0.take k) l1 l2 = crossG (fun x y z => (x, y, z)) (l0.take k) l1 l2 ++ crossF ((fun x y z => (x, y, z)) (l0[k]?.getD 0)) (l1.take 0) l2 := by first | exact cg_start1 _ _ _ _ _ _ | exact cg_end2 (by assumption) (by omega)
    replace S := S.reR hre
    replace hr7 := hr7.eq hre
    clear hre
    refine WP_loop (γ := Nat) (fun (j : Nat) a w => ∃ (M_7 : Hp) (u7 : Value) (xs7 : List Value), Hp.le M_3 M_7 ∧ St w M_7 (OwnC 72 3 u7 (crossG (fun x y z => (x, y, z)) (l0.take k) l1 l2 ++ crossF ((fun x y z => (x, y, z)) (l0[k]?.getD 0)) (l1.take j) l2).length xs7 :: H) ∧ Env a 43 [] [(1, v1), (2, v2), (7, u7), (9, .int .i64 x_5), (14, v0), (15, .int .i64 (((l0).length : Nat) : Int)), (16, .int .i64 ((k : Nat) : Int)), (20, v1), (21, .int .i64 (((l1).length : Nat) : Int)), (22, .int .i64 ((j : Nat) : Int))] ∧ (j ≤ (l1).length) ∧ RowsR RP3 3 M_7 (crossG (fun x y z => (x, y, z)) (l0.take k) l1 l2 ++ crossF ((fun x y z => (x, y, z)) (l0[k]?.getD 0)) (l1.take j) l2) xs7) (fun j => ((l1).length) - j) 0 ⟨M_3, _, _, Hp.le.refl _, S, E.keep ⟨rfl, rfl, rfl, rfl, rfl, rfl, rfl, rfl, rfl, rfl, trivial⟩, by ((try clear S); (try clear E); first | assumption | omega | rfl | (simp; done) | (simp_all; done) | (simp [List.take_add_one, *]; done) | grind [List.take_add_one]), hr7⟩ ?_
    try clear E
    try clear S
    try clear a
    try clear w
    rintro j a w ⟨M_7, u7, xs7, hM_7, S, E, hL1_0, hr7⟩
    replace h0 := h0.le hM_7
    replace h1 := h1.le hM_7
    replace h2 := h2.le hM_7
    refine WP_seq ?_
    refine WP_region ?_
    refine S_v E rfl (R_lss E rfl rfl) rfl ?_
    clear E a; intro a E
    refine WL_nil ?_
    refine T_n ?_
    refine WP_seq ?_
    refine WP_cond E rfl (fun hc_8 => ?_) (fun hc_8 => ?_)
    · replace hc_8 := of_decide_eq_true hc_8
      refine WP_skip ?_
      refine T_n ?_
      refine WP_seq ?_
      refine WP_block ?_
      refine WP_seq ?_
      refine WP_region ?_
      obtain ⟨x_9, hx_9⟩ : ∃ x, (l1)[j]? = some x := ⟨_, List.getElem?_eq_getElem (by first | omega | (simp; done) | (simp; omega) | (simp_all; omega))⟩
      obtain ⟨p_10, hp_10, qp_10⟩ := h1.at hx_9
      refine S_v E rfl (R_idx E rfl rfl T24 hp_10 rfl) rfl ?_
      clear E a; intro a E
      refine S_v E rfl (R_loadM E rfl Try.isAgg3 S.imm qp_10) rfl ?_
      clear E a; intro a E
      refine S_v E rfl (R_assign E rfl) rfl ?_
      clear E a; intro a E
      refine WL_nil ?_
      refine T_n ?_
      refine WP_seq ?_
      refine WP_region ?_
      refine S_v E rfl (R_move E rfl) rfl ?_
      clear E a; intro a E
      refine S_v E rfl (R_lenV E rfl T24 h2.len) rfl ?_
      clear E a; intro a E
      refine S_v E rfl (R_move E rfl) rfl ?_
      clear E a; intro a E
      refine WL_nil ?_
      refine T_n ?_
      refine WP_block ?_
      have hre : crossG (fun x y z => (x, y, z)) (l0.take k) l1 l2 ++ crossF ((fun x y z => (x, y, z)) (l0[k]?.getD 0)) (l1.take j) l2 = crossG (fun x y z => (x, y, z)) (l0.take k) l1 l2 ++ crossF ((fun x y z => (x, y, z)) (l0[k]?.getD 0)) (l1.take j) l2 ++ (l2.take 0).map ((fun x y z => (x, y, z)) (l0[k]?.getD 0) (l1[j]?.getD 0)) := by first | exact cg_start2 _ _ _ _ _ _ _ _ | exact cg_step (by assumption) (by assumption) (by assumption)
      replace S := S.reR hre
      replace hr7 := hr7.eq hre
      clear hre
      refine WP_loop (γ := Nat) (fun (m : Nat) a w => ∃ (M_11 : Hp) (u7 : Value) (xs7 : List Value), Hp.le M_7 M_11 ∧ St w M_11 (OwnC 72 3 u7 (crossG (fun x y z => (x, y, z)) (l0.take k) l1 l2 ++ crossF ((fun x y z => (x, y, z)) (l0[k]?.getD 0)) (l1.take j) l2 ++ (l2.take m).map ((fun x y z => (x, y, z)) (l0[k]?.getD 0) (l1[j]?.getD 0))).length xs7 :: H) ∧ Env a 43 [] [(1, v1), (2, v2), (7, u7), (9, .int .i64 x_5), (11, .int .i64 x_9), (14, v0), (15, .int .i64 (((l0).length : Nat) : Int)), (16, .int .i64 ((k : Nat) : Int)), (20, v1), (21, .int .i64 (((l1).length : Nat) : Int)), (22, .int .i64 ((j : Nat) : Int)), (26, v2), (27, .int .i64 (((l2).length : Nat) : Int)), (28, .int .i64 ((m : Nat) : Int))] ∧ (m ≤ (l2).length) ∧ RowsR RP3 3 M_11 (crossG (fun x y z => (x, y, z)) (l0.take k) l1 l2 ++ crossF ((fun x y z => (x, y, z)) (l0[k]?.getD 0)) (l1.take j) l2 ++ (l2.take m).map ((fun x y z => (x, y, z)) (l0[k]?.getD 0) (l1[j]?.getD 0))) xs7) (fun m => ((l2).length) - m) 0 ⟨M_7, _, _, Hp.le.refl _, S, E.keep ⟨rfl, rfl, rfl, rfl, rfl, rfl, rfl, rfl, rfl, rfl, rfl, rfl, rfl, rfl, trivial⟩, by ((try clear S); (try clear E); first | assumption | omega | rfl | (simp; done) | (simp_all; done) | (simp [List.take_add_one, *]; done) | grind [List.take_add_one]), hr7⟩ ?_
      try clear E
      try clear S
      try clear a
      try clear w
      rintro m a w ⟨M_11, u7, xs7, hM_11, S, E, hL2_0, hr7⟩
      replace h0 := h0.le hM_11
      replace h1 := h1.le hM_11
      replace h2 := h2.le hM_11
      have hcb := cg_bnd2 (fun x y z => (x, y, z)) l0 l1 l2 k j m (l0[k]?.getD 0) (l1[j]?.getD 0)
      refine WP_seq ?_
      refine WP_region ?_
      refine S_v E rfl (R_lss E rfl rfl) rfl ?_
      clear E a; intro a E
      refine WL_nil ?_
      refine T_n ?_
      refine WP_seq ?_
      refine WP_cond E rfl (fun hc_12 => ?_) (fun hc_12 => ?_)
      · replace hc_12 := of_decide_eq_true hc_12
        refine WP_skip ?_
        refine T_n ?_
        refine WP_seq ?_
        refine WP_block ?_
        refine WP_seq ?_
        refine WP_region ?_
        obtain ⟨x_13, hx_13⟩ : ∃ x, (l2)[m]? = some x := ⟨_, List.getElem?_eq_getElem (by first | omega | (simp; done) | (simp; omega) | (simp_all; omega))⟩
        obtain ⟨p_14, hp_14, qp_14⟩ := h2.at hx_13
        refine S_v E rfl (R_idx E rfl rfl T24 hp_14 rfl) rfl ?_
        clear E a; intro a E
        refine S_v E rfl (R_loadM E rfl Try.isAgg3 S.imm qp_14) rfl ?_
        clear E a; intro a E
        refine S_v E rfl (R_assign E rfl) rfl ?_
        clear E a; intro a E
        refine WL_nil ?_
        refine T_n ?_
        refine WP_region ?_
        refine S_v E rfl (R_move E rfl) rfl ?_
        clear E a; intro a E
        refine S_v E rfl (R_move E rfl) rfl ?_
        clear E a; intro a E
        refine S_v E rfl (R_move E rfl) rfl ?_
        clear E a; intro a E
        refine S_v E rfl (R_move E rfl) rfl ?_
        clear E a; intro a E
        refine S_v E rfl (R_build (u := .agg #[.int .i64 x_5, .int .i64 x_9, .int .i64 x_13]) (vs := [.int .i64 x_5, .int .i64 x_9, .int .i64 x_13]) E rfl (fun w => FB72_0_1_2_iii x_5 x_9 x_13 w)) rfl ?_
        clear E a; intro a E
        refine S_x (X_buildA1 (R := RP3) (cs := [.int .i64 x_5, .int .i64 x_9, .int .i64 x_13]) (x0 := (x_5, x_9, x_13)) RP3_mono E S rfl T58 rfl rfl rfl rfl ?_)
        clear E a S; rintro a v_15 w M_16 hM_16 hv_15 S E
        replace h0 := h0.le hM_16
        replace h1 := h1.le hM_16
        replace h2 := h2.le hM_16
        replace hr7 := hr7.le RP3_mono hM_16
        refine S_x (X_appendR (R := RP3) (zs := crossG (fun x y z => (x, y, z)) (l0.take k) l1 l2 ++ crossF ((fun x y z => (x, y, z)) (l0[k]?.getD 0)) (l1.take j) l2 ++ (l2.take m).map ((fun x y z => (x, y, z)) (l0[k]?.getD 0) (l1[j]?.getD 0))) (ys := [(x_5, x_9, x_13)]) E S hr7 rfl rfl rfl T58 hv_15 one_RP3 (by (first | omega | (simp only [List.length_append, List.length_cons, List.length_nil] at hcb ⊢; omega))) (by (first | omega | (simp only [List.length_append, List.length_cons, List.length_nil] at hcb ⊢; omega))) ?_)
        clear E a S; rintro a w v_17 xs_18 E hr_19 S
        refine S_v E rfl (R_assign E rfl) rfl ?_
        clear E a; intro a E
        refine WL_nil ?_
        refine B_n ?_
        refine T_n ?_
        refine WP_region ?_
        refine S_v E rfl (R_addx (m := ((m + 1 : Nat) : Int)) E rfl rfl (by omega) (by omega)) rfl ?_
        clear E a; intro a E
        refine S_v E rfl (R_move E rfl) rfl ?_
        clear E a; intro a E
        refine WL_nil ?_
        refine T_n ?_
        have hre : (crossG (fun x y z => (x, y, z)) (l0.take k) l1 l2 ++ crossF ((fun x y z => (x, y, z)) (l0[k]?.getD 0)) (l1.take j) l2 ++ (l2.take m).map ((fun x y z => (x, y, z)) (l0[k]?.getD 0) (l1[j]?.getD 0))) ++ [(x_5, x_9, x_13)] = crossG (fun x y z => (x, y, z)) (l0.take k) l1 l2 ++ crossF ((fun x y z => (x, y, z)) (l0[k]?.getD 0)) (l1.take j) l2 ++ (l2.take (m + 1)).map ((fun x y z => (x, y, z)) (l0[k]?.getD 0) (l1[j]?.getD 0)) := by first | exact cg_start2 _ _ _ _ _ _ _ _ | exact cg_step (by assumption) (by assumption) (by assumption)
        replace S := S.reR hre
        replace hr_19 := hr_19.eq hre
        clear hre
        exact ⟨m + 1, ⟨M_16, _, _, (hM_11.trans hM_16), S, E.keep ⟨rfl, rfl, rfl, rfl, rfl, rfl, rfl, rfl, rfl, rfl, rfl, rfl, rfl, rfl, trivial⟩, by ((try clear S); (try clear E); first | assumption | omega | rfl | (simp; done) | (simp_all; done) | (simp [List.take_add_one, *]; done) | grind [List.take_add_one]), hr_19⟩, by omega⟩
      · replace hc_12 := of_decide_eq_false hc_12
        refine WP_exit ?_
        refine T_x ?_
        refine T_x ?_
        refine B_x ?_
        refine B_n ?_
        refine T_n ?_
        refine WP_region ?_
        refine S_v E rfl (R_addx (m := ((j + 1 : Nat) : Int)) E rfl rfl (by omega) (by omega)) rfl ?_
        clear E a; intro a E
        refine S_v E rfl (R_move E rfl) rfl ?_
        clear E a; intro a E
        refine WL_nil ?_
        refine T_n ?_
        have hre : crossG (fun x y z => (x, y, z)) (l0.take k) l1 l2 ++ crossF ((fun x y z => (x, y, z)) (l0[k]?.getD 0)) (l1.take j) l2 ++ (l2.take m).map ((fun x y z => (x, y, z)) (l0[k]?.getD 0) (l1[j]?.getD 0)) = crossG (fun x y z => (x, y, z)) (l0.take k) l1 l2 ++ crossF ((fun x y z => (x, y, z)) (l0[k]?.getD 0)) (l1.take (j + 1)) l2 := by first | exact cg_start1 _ _ _ _ _ _ | exact cg_end2 (by assumption) (by omega)
        replace S := S.reR hre
        replace hr7 := hr7.eq hre
        clear hre
        exact ⟨j + 1, ⟨M_11, _, _, (hM_7.trans hM_11), S, E.keep ⟨rfl, rfl, rfl, rfl, rfl, rfl, rfl, rfl, rfl, rfl, trivial⟩, by ((try clear S); (try clear E); first | assumption | omega | rfl | (simp; done) | (simp_all; done) | (simp [List.take_add_one, *]; done) | grind [List.take_add_one]), hr7⟩, by omega⟩
    · replace hc_8 := of_decide_eq_false hc_8
      refine WP_exit ?_
      refine T_x ?_
      refine T_x ?_
      refine B_x ?_
      refine B_n ?_
      refine T_n ?_
      refine WP_region ?_
      refine S_v E rfl (R_addx (m := ((k + 1 : Nat) : Int)) E rfl rfl (by omega) (by omega)) rfl ?_
      clear E a; intro a E
      refine S_v E rfl (R_move E rfl) rfl ?_
      clear E a; intro a E
      refine WL_nil ?_
      refine T_n ?_
      have hre : crossG (fun x y z => (x, y, z)) (l0.take k) l1 l2 ++ crossF ((fun x y z => (x, y, z)) (l0[k]?.getD 0)) (l1.take j) l2 = crossG (fun x y z => (x, y, z)) (l0.take (k + 1)) l1 l2 := by first | (simp [crossG]; done) | exact cg_end1 (by assumption) (by omega)
      replace S := S.reR hre
      replace hr7 := hr7.eq hre
      clear hre
      exact ⟨k + 1, ⟨M_7, _, _, (hM_3.trans hM_7), S, E.keep ⟨rfl, rfl, rfl, rfl, rfl, rfl, trivial⟩, by ((try clear S); (try clear E); first | assumption | omega | rfl | (simp; done) | (simp_all; done) | (simp [List.take_add_one, *]; done) | grind [List.take_add_one]), hr7⟩, by omega⟩
  · replace hc_4 := of_decide_eq_false hc_4
    refine WP_exit ?_
    refine T_x ?_
    refine T_x ?_
    refine B_x ?_
    refine T_n ?_
    refine WP_seq ?_
    refine WP_region ?_
    refine S_v E rfl (R_move E rfl) rfl ?_
    clear E a; intro a E
    refine S_v E rfl (R_assign E rfl) rfl ?_
    clear E a; intro a E
    refine WL_nil ?_
    refine T_n ?_
    refine WP_ret ?_
    have S0 := S; clear S
    obtain ⟨M_20, hM_20, hz_21, S⟩ := S0.freezeR hr7 RP3_mono (by (first | omega | (simp; done) | ((try simp only [cg_len, cr_len, List.length_take]); have h9 := Nat.mul_le_mul_right (l1.length * l2.length) (Nat.min_le_right k l0.length); omega)))
    clear S0
    replace h0 := h0.le hM_20
    replace h1 := h1.le hM_20
    replace h2 := h2.le hM_20
    exact F_ret1 E Try.results59 rfl ⟨_, rfl, M_20, (hM_3.trans hM_20), (by rw [show (crossG (fun x y z => (x, y, z)) l0 l1 l2) = (crossG (fun x y z => (x, y, z)) (l0.take k) l1 l2) from by (rw [List.take_of_length_le (by omega)])]; exact hz_21), S⟩

set_option maxRecDepth 100000 in
set_option maxHeartbeats 4000000 in
theorem spec_CrossJoin2 {M : Hp} {v0 v1 : Value} {l0 l1 : List Int} (h0 : RdI M v0 l0) (h1 : RdI M v1 l1) (hb0 : l0.length ≤ 1000) (hb1 : l1.length ≤ 1000) :
    Pu Try.prog (.func (.func 61) #[] #[]) M [v0, v1] (fun r M' => RdS 2 RP2 M' r (crossF (fun x y => (x, y)) l0 l1)) := by
  refine Pu_enter Try.func61 rfl Try.ntmps61 rfl Try.call61 ?_
  intro a w M1 H hM1 S E
  replace h0 := h0.le hM1
  replace h1 := h1.le hM1
  have b0 := h0.bound
  have b1 := h1.bound
  have hmul : l0.length * l1.length ≤ 1000 * 1000 := Nat.mul_le_mul hb0 hb1
  have hcl := cg_len (fun x y z => (x, y, z)) l1 [0] l0
  simp only [List.length_cons, List.length_nil, Nat.zero_add, Nat.mul_one] at hcl
  refine WP_seq ?_
  refine WP_region ?_
  refine S_v E rfl (R_assign E rfl) rfl ?_
  clear E a; intro a E
  refine WL_nil ?_
  refine T_n ?_
  refine WP_seq ?_
  refine WP_region ?_
  refine S_v E rfl (R_assign E rfl) rfl ?_
  clear E a; intro a E
  refine WL_nil ?_
  refine T_n ?_
  refine WP_seq ?_
  refine WP_seq ?_
  refine WP_region ?_
  refine S_v E rfl (R_move E rfl) rfl ?_
  clear E a; intro a E
  refine S_v E rfl (R_move E rfl) rfl ?_
  clear E a; intro a E
  refine S_x (X_buildI (ys := [0]) E S rfl T24 rfl rfl rfl ?_)
  clear E a S; rintro a w v_1 E S
  have S0 := S; clear S
  obtain ⟨M_2, hM_2, hz_3, S⟩ := S0.freezeI (by (first | omega | (simp; done) | (simp only [List.length_map, List.length_take]; omega)))
  clear S0
  replace h0 := h0.le hM_2
  replace h1 := h1.le hM_2
  refine S_x (X_pu E S rfl rfl rfl (spec_CrossJoin3 h0 h1 hz_3 (by first | omega | decide) (by first | omega | decide) (by first | omega | decide)) (Hp.le.refl _) ?_)
  clear E a S; rintro a v_5 w M_4 hM_4 hv_5 S E
  replace h0 := h0.le hM_4
  replace h1 := h1.le hM_4
  replace hz_3 := hz_3.le hM_4
  refine S_v E rfl (R_lenV E rfl T58 hv_5.len) rfl ?_
  clear E a; intro a E
  refine S_v E rfl (R_move E rfl) rfl ?_
  clear E a; intro a E
  refine WL_nil ?_
  refine T_n ?_
  refine WP_block ?_
  replace S : St w M_4 (OwnC 71 2 (.slice none 0 0) ([] : List (Int × Int)).length [] :: _) := S.ownNil
  have hr_7 : RowsR RP2 2 M_4 ([] : List (Int × Int)) [] := RowsR.nil
  have hre : ([] : List (Int × Int)) = ((crossG (fun x y z => (x, y, z)) l0 l1 [0]).take 0).map (fun p => (p.1, p.2.1)) := by first | (simp; done) | (rw [tk_snoc (by assumption), List.map_append]; rfl)
  replace S := S.reR hre
  replace hr_7 := hr_7.eq hre
  clear hre
  refine WP_loop (γ := Nat) (fun (k : Nat) a w => ∃ (M_8 : Hp) (u5 : Value) (xs5 : List Value), Hp.le M_4 M_8 ∧ St w M_8 (OwnC 71 2 u5 (((crossG (fun x y z => (x, y, z)) l0 l1 [0]).take k).map (fun p => (p.1, p.2.1))).length xs5 :: H) ∧ Env a 27 [] [(5, u5), (11, v_5), (12, .int .i64 (((crossG (fun x y z => (x, y, z)) l0 l1 [0]).length : Nat) : Int)), (13, .int .i64 ((k : Nat) : Int))] ∧ (k ≤ (crossG (fun x y z => (x, y, z)) l0 l1 [0]).length) ∧ RowsR RP2 2 M_8 (((crossG (fun x y z => (x, y, z)) l0 l1 [0]).take k).map (fun p => (p.1, p.2.1))) xs5) (fun k => ((crossG (fun x y z => (x, y, z)) l0 l1 [0]).length) - k) 0 ⟨M_4, _, _, Hp.le.refl _, S, E.keep ⟨rfl, rfl, rfl, rfl, trivial⟩, by ((try clear S); (try clear E); first | assumption | omega | rfl | (simp; done) | (simp_all; done) | (simp [List.take_add_one, *]; done) | grind [List.take_add_one]), hr_7⟩ ?_
  try clear E
  try clear S
  try clear a
  try clear w
  rintro k a w ⟨M_8, u5, xs5, hM_8, S, E, hL0_0, hr5⟩
  replace h0 := h0.le hM_8
  replace h1 := h1.le hM_8
  replace hz_3 := hz_3.le hM_8
  replace hv_5 := hv_5.le RP3_mono hM_8
  refine WP_seq ?_
  refine WP_region ?_
  refine S_v E rfl (R_lss E rfl rfl) rfl ?_
  clear E a; intro a E
  refine WL_nil ?_
  refine T_n ?_
  refine WP_seq ?_
  refine WP_cond E rfl (fun hc_9 => ?_) (fun hc_9 => ?_)
  · replace hc_9 := of_decide_eq_true hc_9
    refine WP_skip ?_
    refine T_n ?_
    refine WP_seq ?_
    refine WP_block ?_
    refine WP_seq ?_
    refine WP_region ?_
    obtain ⟨x_10, hx_10⟩ : ∃ x, (crossG (fun x y z => (x, y, z)) l0 l1 [0])[k]? = some x := ⟨_, List.getElem?_eq_getElem (by first | omega | (simp; done) | (simp; omega) | (simp_all; omega))⟩
    obtain ⟨p_11, hp_11, qp_11⟩ := RdP3.at hv_5 hx_10
    refine S_v E rfl (R_idx E rfl rfl T58 hp_11 rfl) rfl ?_
    clear E a; intro a E
    refine S_v E rfl (R_loadA (cs := [.int .i64 x_10.1, .int .i64 x_10.2.1, .int .i64 x_10.2.2]) E rfl (Try.isAgg72 _) (Try.sizeOf72 _) S.imm qp_11) rfl ?_
    clear E a; intro a E
    refine S_x (X_alloc (cs := #[.int .i64 0, .int .i64 0, .int .i64 0]) E S rfl Try.zeroValue72 rfl ?_)
    clear E a S; rintro a w b_12 E S
    refine S_x0 (X_storeG (us := [.int .i64 x_10.1, .int .i64 x_10.2.1, .int .i64 x_10.2.2]) E S rfl rfl (Try.sizeOf72 _) rfl (by intro u hu; simp only [List.mem_cons, List.not_mem_nil, or_false] at hu; rcases hu with rfl | rfl | rfl <;> first | exact rfl | exact rfl | exact rfl) ?_)
    clear E a S; rintro a w E S
    replace S : St w M_8 (blk b_12 (.cells #[.int .i64 x_10.1, .int .i64 x_10.2.1, .int .i64 x_10.2.2] 72) :: _) := S
    have S0 := S; clear S
    obtain ⟨M_13, hM_13, hb_14, S⟩ := S0.freezeB
    clear S0
    replace h0 := h0.le hM_13
    replace h1 := h1.le hM_13
    replace hz_3 := hz_3.le hM_13
    replace hv_5 := hv_5.le RP3_mono hM_13
    replace hr5 := hr5.le RP2_mono hM_13
    refine WL_nil ?_
    refine T_n ?_
    refine WP_region ?_
    refine S_v E rfl (R_move E rfl) rfl ?_
    clear E a; intro a E
    refine S_v E rfl (R_fieldAddr E rfl (FA72_0 _)) rfl ?_
    clear E a; intro a E
    refine S_v E rfl (R_loadM E rfl Try.isAgg3 S.imm (cellM_boxo hb_14 rfl)) rfl ?_
    clear E a; intro a E
    refine S_v E rfl (R_fieldAddr E rfl (FA72_1 _)) rfl ?_
    clear E a; intro a E
    refine S_v E rfl (R_loadM E rfl Try.isAgg3 S.imm (cellM_boxo hb_14 rfl)) rfl ?_
    clear E a; intro a E
    refine S_v E rfl (R_build (u := .agg #[.int .i64 x_10.1, .int .i64 x_10.2.1]) (vs := [.int .i64 x_10.1, .int .i64 x_10.2.1]) E rfl (fun w => FB71_0_1_ii x_10.1 x_10.2.1 w)) rfl ?_
    clear E a; intro a E
    refine S_x (X_buildA1 (R := RP2) (cs := [.int .i64 x_10.1, .int .i64 x_10.2.1]) (x0 := (x_10.1, x_10.2.1)) RP2_mono E S rfl T61 rfl rfl rfl rfl ?_)
    clear E a S; rintro a v_15 w M_16 hM_16 hv_15 S E
    replace h0 := h0.le hM_16
    replace h1 := h1.le hM_16
    replace hz_3 := hz_3.le hM_16
    replace hv_5 := hv_5.le RP3_mono hM_16
    replace hr5 := hr5.le RP2_mono hM_16
    replace hb_14 := hM_16.2 _ _ hb_14
    refine S_x (X_appendR (R := RP2) (zs := ((crossG (fun x y z => (x, y, z)) l0 l1 [0]).take k).map (fun p => (p.1, p.2.1))) (ys := [(x_10.1, x_10.2.1)]) E S hr5 rfl rfl rfl T61 hv_15 one_RP2 (by (simp only [List.length_map, List.length_take, List.length_cons, List.length_nil]; omega)) (by (simp only [List.length_map, List.length_take, List.length_cons, List.length_nil]; omega)) ?_)
    clear E a S; rintro a w v_17 xs_18 E hr_19 S
    refine S_v E rfl (R_assign E rfl) rfl ?_
    clear E a; intro a E
    refine WL_nil ?_
    refine B_n ?_
    refine T_n ?_
    refine WP_region ?_
    refine S_v E rfl (R_addx (m := ((k + 1 : Nat) : Int)) E rfl rfl (by omega) (by omega)) rfl ?_
    clear E a; intro a E
    refine S_v E rfl (R_move E rfl) rfl ?_
    clear E a; intro a E
    refine WL_nil ?_
    refine T_n ?_
    have hre : (((crossG (fun x y z => (x, y, z)) l0 l1 [0]).take k).map (fun p => (p.1, p.2.1))) ++ [(x_10.1, x_10.2.1)] = ((crossG (fun x y z => (x, y, z)) l0 l1 [0]).take (k + 1)).map (fun p => (p.1, p.2.1)) := by first | (simp; done) | (rw [tk_snoc (by assumption), List.map_append]; rfl)
    replace S := S.reR hre
    replace hr_19 := hr_19.eq hre
    clear hre
    exact ⟨k + 1, ⟨M_16, _, _, (hM_8.trans (hM_13.trans hM_16)), S, E.keep ⟨rfl, rfl, rfl, rfl, trivial⟩, by ((try clear S); (try clear E); first | assumption | omega | rfl | (simp; done) | (simp_all; done) | (simp [List.take_add_one, *]; done) | grind [List.take_add_one]), hr_19⟩, by omega⟩
  · replace hc_9 := of_decide_eq_false hc_9
    refine WP_exit ?_
    refine T_x ?_
    refine T_x ?_
    refine B_x ?_
    refine T_n ?_
    refine WP_seq ?_
    refine WP_region ?_
    refine S_v E rfl (R_move E rfl) rfl ?_
    clear E a; intro a E
    refine S_v E rfl (R_assign E rfl) rfl ?_
    clear E a; intro a E
    refine WL_nil ?_
    refine T_n ?_
    refine WP_ret ?_
    have S0 := S; clear S
    obtain ⟨M_20, hM_20, hz_21, S⟩ := S0.freezeR hr5 RP2_mono (by (first | omega | (simp; done) | (simp only [List.length_map, List.length_take]; omega)))
    clear S0
    replace h0 := h0.le hM_20
    replace h1 := h1.le hM_20
    replace hz_3 := hz_3.le hM_20
    replace hv_5 := hv_5.le RP3_mono hM_20
    exact F_ret1 E Try.results61 rfl ⟨_, rfl, M_20, (hM_2.trans (hM_4.trans (hM_8.trans hM_20))), (by rw [show (crossF (fun x y => (x, y)) l0 l1) = (((crossG (fun x y z => (x, y, z)) l0 l1 [0]).take k).map (fun p => (p.1, p.2.1))) from by (rw [List.take_of_length_le (by omega)]; first | exact cg_one _ _ | exact (cg_one _ _).symm)]; exact hz_21), S⟩

set_option maxRecDepth 100000 in
set_option maxHeartbeats 4000000 in
theorem laws_eqRef {M : Hp} {v0 : Value} {l0 : List (Int × Int)} (h0 : RdS 2 RP2 M v0 l0) {v1 : Value} {l1 : List (Int × Int)} (h1 : RdS 2 RP2 M v1 l1) :
    Pu Try.prog (.func (.func 60) #[] #[]) M [v0, v1] (fun r M' => r = .bool (decide (l0 = l1))) := by
  refine Pu_enter Try.func60 rfl Try.ntmps60 rfl Try.call60 ?_
  intro a w M1 H hM1 S E
  replace h0 := h0.le RP2_mono hM1
  replace h1 := h1.le RP2_mono hM1
  have b0 := h0.bound
  have b1 := h1.bound
  refine WP_seq ?_
  refine WP_region ?_
  refine S_v E rfl (R_assign E rfl) rfl ?_
  clear E a; intro a E
  refine WL_nil ?_
  refine T_n ?_
  refine WP_seq ?_
  refine WP_seq ?_
  refine WP_region ?_
  refine S_v E rfl (R_move E rfl) rfl ?_
  clear E a; intro a E
  refine S_v E rfl (R_lenV E rfl T51 h0.len) rfl ?_
  clear E a; intro a E
  refine S_v E rfl (R_move E rfl) rfl ?_
  clear E a; intro a E
  refine S_v E rfl (R_lenV E rfl T61 h1.len) rfl ?_
  clear E a; intro a E
  refine S_v E rfl (R_neq E rfl rfl) rfl ?_
  clear E a; intro a E
  refine WL_nil ?_
  refine T_n ?_
  refine WP_cond E rfl (fun hc_1 => ?_) (fun hc_1 => ?_)
  · replace hc_1 := of_decide_eq_true hc_1
    refine WP_seq ?_
    refine WP_region ?_
    refine S_v E rfl (R_assign E rfl) rfl ?_
    clear E a; intro a E
    refine WL_nil ?_
    refine T_n ?_
    refine WP_ret ?_
    refine T_r ?_
    exact F_ret1 E Try.results60 rfl ⟨_, rfl, M1, (Hp.le.refl _), (bF (by (first | (simp; done) | exact eqp_no (by assumption) (by assumption) (p2_ne (by assumption)) | (have h9 : l0.take k = l1.take k := (by assumption); rwa [List.take_of_length_le (by omega), List.take_of_length_le (by omega)] at h9) | (intro h9; subst h9; omega) | (intro h9; subst h9; simp_all; done)))), S⟩
  · replace hc_1 := of_decide_eq_false hc_1
    refine WP_skip ?_
    refine T_n ?_
    refine WP_seq ?_
    refine WP_seq ?_
    refine WP_region ?_
    refine S_v E rfl (R_move E rfl) rfl ?_
    clear E a; intro a E
    refine S_v E rfl (R_lenV E rfl T51 h0.len) rfl ?_
    clear E a; intro a E
    refine S_v E rfl (R_move E rfl) rfl ?_
    clear E a; intro a E
    refine WL_nil ?_
    refine T_n ?_
    refine WP_block ?_
    refine WP_loop (γ := Nat) (fun (k : Nat) a w => ∃ (M_2 : Hp), Hp.le M1 M_2 ∧ St w M_2 (H) ∧ Env a 26 [] [(0, v0), (1, v1), (12, .int .i64 (((l0).length : Nat) : Int)), (13, .int .i64 ((k : Nat) : Int))] ∧ (k ≤ (l0).length) ∧ (l0.length = l1.length) ∧ (l0.take k = l1.take k)) (fun k => ((l0).length) - k) 0 ⟨M1, Hp.le.refl _, S, E.keep ⟨rfl, rfl, rfl, rfl, trivial⟩, by ((try clear S); (try clear E); first | assumption | omega | rfl | (simp; done) | (simp_all; done) | (simp [List.take_add_one, *]; done) | grind [List.take_add_one]), by ((try clear S); (try clear E); first | assumption | omega | rfl | (simp; done) | (simp_all; done) | (simp [List.take_add_one, *]; done) | grind [List.take_add_one]), by ((try clear S); (try clear E); first | assumption | omega | rfl | (simp; done) | (simp_all; done) | (simp [List.take_add_one, *]; done) | grind [List.take_add_one])⟩ ?_
    try clear E
    try clear S
    try clear a
    try clear w
    rintro k a w ⟨M_2, hM_2, S, E, hL0_0, hL0_1, hL0_2⟩
    replace h0 := h0.le RP2_mono hM_2
    replace h1 := h1.le RP2_mono hM_2
    refine WP_seq ?_
    refine WP_region ?_
    refine S_v E rfl (R_lss E rfl rfl) rfl ?_
    clear E a; intro a E
    refine WL_nil ?_
    refine T_n ?_
    refine WP_seq ?_
    refine WP_cond E rfl (fun hc_3 => ?_) (fun hc_3 => ?_)
    · replace hc_3 := of_decide_eq_true hc_3
      refine WP_skip ?_
      refine T_n ?_
      refine WP_seq ?_
      refine WP_block ?_
      refine WP_seq ?_
      refine WP_region ?_
      refine S_v E rfl (R_move E rfl) rfl ?_
      clear E a; intro a E
      refine S_v E rfl (R_assign E rfl) rfl ?_
      clear E a; intro a E
      refine WL_nil ?_
      refine T_n ?_
      refine WP_seq ?_
      replace S := S.mono_heap (w' := World.drew _) rfl
      refine WP_drawn (C := fun x w => agree M_2 w) (bf := (fun i => [])) [0, 1, 2, 3, 4, 5, 6, 7, 8] [0, 1, 2, 3, 4, 5, 6, 7, 8] Try.mixed (by kernel_rfl) (fun x hq => S.imm) ?_
      refine D_v E rfl rfl rfl (fun w hC => (R_move E rfl)) ?_
      clear E a; intro a E
      refine D_v E rfl rfl rfl (fun w hC => (R_move E rfl)) ?_
      clear E a; intro a E
      obtain ⟨x_4, hx_4⟩ : ∃ x, (l0)[k]? = some x := ⟨_, List.getElem?_eq_getElem (by first | omega | (simp; done) | (simp; omega) | (simp_all; omega))⟩
      obtain ⟨p_5, hp_5, qp_5⟩ := RdP2.at h0 hx_4
      refine D_v E rfl rfl rfl (fun w hC => (R_idx E rfl rfl T51 hp_5 rfl)) ?_
      clear E a; intro a E
      refine D_v E rfl rfl rfl (fun w hC => (R_loadA (cs := [.int .i64 x_4.1, .int .i64 x_4.2]) E rfl (Try.isAgg55 _) (Try.sizeOf55 _) hC qp_5)) ?_
      clear E a; intro a E
      refine D_v E rfl rfl rfl (fun w hC => (R_move E rfl)) ?_
      clear E a; intro a E
      refine D_v E rfl rfl rfl (fun w hC => (R_move E rfl)) ?_
      clear E a; intro a E
      obtain ⟨x_6, hx_6⟩ : ∃ x, (l1)[k]? = some x := ⟨_, List.getElem?_eq_getElem (by first | omega | (simp; done) | (simp; omega) | (simp_all; omega))⟩
      obtain ⟨p_7, hp_7, qp_7⟩ := RdP2.at h1 hx_6
      refine D_v E rfl rfl rfl (fun w hC => (R_idx E rfl rfl T61 hp_7 rfl)) ?_
      clear E a; intro a E
      refine D_v E rfl rfl rfl (fun w hC => (R_loadA (cs := [.int .i64 x_6.1, .int .i64 x_6.2]) E rfl (Try.isAgg71 _) (Try.sizeOf71 _) hC qp_7)) ?_
      clear E a; intro a E
      refine D_v E rfl rfl rfl (fun w hC => (R_neqA E rfl rfl (by kernel_rfl) (EQ71 x_4.1 x_4.2 x_6.1 x_6.2 _))) ?_
      clear E a; intro a E
      refine D_end (NoP_n ?_)
      refine T_n ?_
      refine WP_cond E rfl (fun hc_8 => ?_) (fun hc_8 => ?_)
      · replace hc_8 := of_decide_eq_true hc_8
        refine WP_seq ?_
        refine WP_region ?_
        refine S_v E rfl (R_assign E rfl) rfl ?_
        clear E a; intro a E
        refine WL_nil ?_
        refine T_n ?_
        refine WP_ret ?_
        refine B_r ?_
        refine T_r ?_
        refine T_r ?_
        refine B_r ?_
        refine T_r ?_
        exact F_ret1 E Try.results60 rfl ⟨_, rfl, M_2, hM_2, (bF (by (first | (simp; done) | exact eqp_no (by assumption) (by assumption) (p2_ne (by assumption)) | (have h9 : l0.take k = l1.take k := (by assumption); rwa [List.take_of_length_le (by omega), List.take_of_length_le (by omega)] at h9) | (intro h9; subst h9; omega) | (intro h9; subst h9; simp_all; done)))), S⟩
      · replace hc_8 := of_decide_eq_false hc_8
        refine WP_skip ?_
        refine B_n ?_
        refine T_n ?_
        refine WP_region ?_
        refine S_v E rfl (R_addx (m := ((k + 1 : Nat) : Int)) E rfl rfl (by omega) (by omega)) rfl ?_
        clear E a; intro a E
        refine S_v E rfl (R_move E rfl) rfl ?_
        clear E a; intro a E
        refine WL_nil ?_
        refine T_n ?_
        exact ⟨k + 1, ⟨M_2, hM_2, S, E.keep ⟨rfl, rfl, rfl, rfl, trivial⟩, by ((try clear S); (try clear E); first | assumption | omega | rfl | (simp; done) | (simp_all; done) | (simp [List.take_add_one, *]; done) | grind [List.take_add_one]), by ((try clear S); (try clear E); first | assumption | omega | rfl | (simp; done) | (simp_all; done) | (simp [List.take_add_one, *]; done) | grind [List.take_add_one]), (by exact eqp_step (by assumption) (by assumption) (by assumption) (p2_eq (by first | assumption | exact Decidable.not_not.1 (by assumption))))⟩, by omega⟩
    · replace hc_3 := of_decide_eq_false hc_3
      refine WP_exit ?_
      refine T_x ?_
      refine T_x ?_
      refine B_x ?_
      refine T_n ?_
      refine WP_seq ?_
      refine WP_region ?_
      refine S_v E rfl (R_assign E rfl) rfl ?_
      clear E a; intro a E
      refine WL_nil ?_
      refine T_n ?_
      refine WP_ret ?_
      exact F_ret1 E Try.results60 rfl ⟨_, rfl, M_2, hM_2, (bT (by (first | (simp; done) | exact eqp_no (by assumption) (by assumption) (p2_ne (by assumption)) | (have h9 : l0.take k = l1.take k := (by assumption); rwa [List.take_of_length_le (by omega), List.take_of_length_le (by omega)] at h9) | (intro h9; subst h9; omega) | (intro h9; subst h9; simp_all; done)))), S⟩

set_option maxRecDepth 100000 in
set_option maxHeartbeats 4000000 in
theorem laws_FnCrossed {M : Hp} {v0 v1 v2 : Value} {l0 l1 l2 : List Int} (h0 : RdI M v0 l0) (h1 : RdI M v1 l1) (h2 : RdI M v2 l2) :
    PuC Try.prog 9 M [v0, v1, v2] (fun r M' => r = .bool true) := by
  refine PuC_enter Try.func9 rfl Try.ntmps9 rfl ?_
  intro a w M1 H hM1 S E
  replace h0 := h0.le hM1
  replace h1 := h1.le hM1
  replace h2 := h2.le hM1
  have b0 := h0.bound
  have b1 := h1.bound
  have b2 := h2.bound
  refine WP_seq ?_
  refine WP_region ?_
  refine S_v E rfl (R_assign E rfl) rfl ?_
  clear E a; intro a E
  refine WL_nil ?_
  refine T_n ?_
  refine WP_seq ?_
  refine WP_seq ?_
  refine WP_region ?_
  refine S_v E rfl (R_move E rfl) rfl ?_
  clear E a; intro a E
  refine S_v E rfl (R_lenV E rfl T24 h0.len) rfl ?_
  clear E a; intro a E
  refine S_v E rfl (R_gtr E rfl rfl) rfl ?_
  clear E a; intro a E
  refine S_v E rfl (R_move E rfl) rfl ?_
  clear E a; intro a E
  refine split_bool (decide (2147483647 < (((l0).length : Nat) : Int))) (fun hc_1 => ?_) (fun hc_1 => ?_)
  · replace E := E.val (t := 17) rfl hc_1
    replace E := E.val (t := 18) rfl hc_1
    replace hc_1 := of_decide_eq_true hc_1
    refine WL_guard_no E rfl rfl rfl rfl fun a E => ?_
    refine WL_guard_no E rfl rfl rfl rfl fun a E => ?_
    refine WL_guard_no E rfl rfl rfl rfl fun a E => ?_
    refine S_v E rfl (R_pickT E rfl rfl) rfl ?_
    clear E a; intro a E
    refine S_v E rfl (R_move E rfl) rfl ?_
    clear E a; intro a E
    refine WL_guard_no E rfl rfl rfl rfl fun a E => ?_
    refine WL_guard_no E rfl rfl rfl rfl fun a E => ?_
    refine WL_guard_no E rfl rfl rfl rfl fun a E => ?_
    refine S_v E rfl (R_pickT E rfl rfl) rfl ?_
    clear E a; intro a E
    refine WL_nil ?_
    refine T_n ?_
    refine WP_condT E rfl rfl ?_
    refine WP_seq ?_
    refine WP_region ?_
    refine S_v E rfl (R_assign E rfl) rfl ?_
    clear E a; intro a E
    refine WL_nil ?_
    refine T_n ?_
    refine WP_ret ?_
    refine T_r ?_
    exact F_ret1 E Try.results9 rfl ⟨_, rfl, M1, (Hp.le.refl _), rfl, S⟩
  · replace E := E.val (t := 17) rfl hc_1
    replace E := E.val (t := 18) rfl hc_1
    replace hc_1 := of_decide_eq_false hc_1
    refine WL_guard_yes E rfl rfl ?_
    refine S_v E rfl (R_move E rfl) rfl ?_
    clear E a; intro a E
    refine WL_guard_yes E rfl rfl ?_
    refine S_v E rfl (R_lenV E rfl T24 h1.len) rfl ?_
    clear E a; intro a E
    refine WL_guard_yes E rfl rfl ?_
    refine S_v E rfl (R_gtr E rfl rfl) rfl ?_
    clear E a; intro a E
    refine S_v E rfl (R_pickF E rfl rfl) rfl ?_
    clear E a; intro a E
    refine S_v E rfl (R_move E rfl) rfl ?_
    clear E a; intro a E
    refine split_bool (decide (2147483647 < (((l1).length : Nat) : Int))) (fun hc_2 => ?_) (fun hc_2 => ?_)
    · replace E := E.val (t := 21) rfl hc_2
      replace E := E.val (t := 22) rfl hc_2
      replace E := E.val (t := 23) rfl hc_2
      replace hc_2 := of_decide_eq_true hc_2
      refine WL_guard_no E rfl rfl rfl rfl fun a E => ?_
      refine WL_guard_no E rfl rfl rfl rfl fun a E => ?_
      refine WL_guard_no E rfl rfl rfl rfl fun a E => ?_
      refine S_v E rfl (R_pickT E rfl rfl) rfl ?_
      clear E a; intro a E
      refine WL_nil ?_
      refine T_n ?_
      refine WP_condT E rfl rfl ?_
      refine WP_seq ?_
      refine WP_region ?_
      refine S_v E rfl (R_assign E rfl) rfl ?_
      clear E a; intro a E
      refine WL_nil ?_
      refine T_n ?_
      refine WP_ret ?_
      refine T_r ?_
      exact F_ret1 E Try.results9 rfl ⟨_, rfl, M1, (Hp.le.refl _), rfl, S⟩
    · replace E := E.val (t := 21) rfl hc_2
      replace E := E.val (t := 22) rfl hc_2
      replace E := E.val (t := 23) rfl hc_2
      replace hc_2 := of_decide_eq_false hc_2
      refine WL_guard_yes E rfl rfl ?_
      refine S_v E rfl (R_move E rfl) rfl ?_
      clear E a; intro a E
      refine WL_guard_yes E rfl rfl ?_
      refine S_v E rfl (R_lenV E rfl T24 h2.len) rfl ?_
      clear E a; intro a E
      refine WL_guard_yes E rfl rfl ?_
      refine S_v E rfl (R_gtr E rfl rfl) rfl ?_
      clear E a; intro a E
      refine S_v E rfl (R_pickF E rfl rfl) rfl ?_
      clear E a; intro a E
      refine WL_nil ?_
      refine T_n ?_
      refine WP_cond E rfl (fun hc_3 => ?_) (fun hc_3 => ?_)
      · replace hc_3 := of_decide_eq_true hc_3
        refine WP_seq ?_
        refine WP_region ?_
        refine S_v E rfl (R_assign E rfl) rfl ?_
        clear E a; intro a E
        refine WL_nil ?_
        refine T_n ?_
        refine WP_ret ?_
        refine T_r ?_
        exact F_ret1 E Try.results9 rfl ⟨_, rfl, M1, (Hp.le.refl _), rfl, S⟩
      · replace hc_3 := of_decide_eq_false hc_3
        refine WP_skip ?_
        refine T_n ?_
        refine WP_seq ?_
        refine WP_seq ?_
        refine WP_region ?_
        refine S_x (X_buildI (ys := [1]) E S rfl T24 rfl rfl rfl ?_)
        clear E a S; rintro a w v_4 E S
        refine S_x (X_buildI (ys := [2]) E S rfl T24 rfl rfl rfl ?_)
        clear E a S; rintro a w v_5 E S
        replace S := S.front1
        have S0 := S; clear S
        obtain ⟨M_6, hM_6, hz_7, S⟩ := S0.freezeI (by (first | omega | (simp; omega) | (simp; done) | (simp_all; omega) | grind))
        clear S0
        replace h0 := h0.le hM_6
        replace h1 := h1.le hM_6
        replace h2 := h2.le hM_6
        have S0 := S; clear S
        obtain ⟨M_8, hM_8, hz_9, S⟩ := S0.freezeI (by (first | omega | (simp; omega) | (simp; done) | (simp_all; omega) | grind))
        clear S0
        replace h0 := h0.le hM_8
        replace h1 := h1.le hM_8
        replace h2 := h2.le hM_8
        replace hz_7 := hz_7.le hM_8
        refine S_x (X_pu E S rfl rfl rfl (impl_CrossJoin2 hz_7 hz_9 (by first | omega | decide) (by first | omega | decide)) (Hp.le.refl _) ?_)
        clear E a S; rintro a v_11 w M_10 hM_10 hv_11 S E
        replace h0 := h0.le hM_10
        replace h1 := h1.le hM_10
        replace h2 := h2.le hM_10
        replace hz_7 := hz_7.le hM_10
        replace hz_9 := hz_9.le hM_10
        refine S_v E rfl (R_lenV E rfl T51 hv_11.len) rfl ?_
        clear E a; intro a E
        refine S_v E rfl (R_neq E rfl rfl) rfl ?_
        clear E a; intro a E
        refine WL_nil ?_
        refine T_n ?_
        have hc_12 : (decide ((((crossF (fun x y => (x, y)) [1] [2]).length : Nat) : Int) ≠ 1)) = false := by (clear S E; first | (simp; done) | decide | (simp [cr_len]; done) | (simp [cg_len, cr_len, Nat.mul_assoc]; done) | (have e := fm_get (by assumption) (by assumption) (by assumption); rw [e]; simp; done) | (have e := cg_get (by assumption) (by assumption) (by assumption); rw [e]; simp; done))
        refine WP_condF E rfl hc_12 ?_
        refine WP_skip ?_
        refine T_n ?_
        refine WP_seq ?_
        refine WP_seq ?_
        refine WP_region ?_
        refine S_v E rfl (R_move E rfl) rfl ?_
        clear E a; intro a E
        refine S_v E rfl (R_lenV E rfl T24 h0.len) rfl ?_
        clear E a; intro a E
        refine S_v E rfl (R_gtr E rfl rfl) rfl ?_
        clear E a; intro a E
        refine S_v E rfl (R_move E rfl) rfl ?_
        clear E a; intro a E
        refine split_bool (decide (20 < (((l0).length : Nat) : Int))) (fun hc_13 => ?_) (fun hc_13 => ?_)
        · replace E := E.val (t := 35) rfl hc_13
          replace E := E.val (t := 36) rfl hc_13
          replace hc_13 := of_decide_eq_true hc_13
          refine WL_guard_no E rfl rfl rfl rfl fun a E => ?_
          refine WL_guard_no E rfl rfl rfl rfl fun a E => ?_
          refine WL_guard_no E rfl rfl rfl rfl fun a E => ?_
          refine S_v E rfl (R_pickT E rfl rfl) rfl ?_
          clear E a; intro a E
          refine S_v E rfl (R_move E rfl) rfl ?_
          clear E a; intro a E
          refine WL_guard_no E rfl rfl rfl rfl fun a E => ?_
          refine WL_guard_no E rfl rfl rfl rfl fun a E => ?_
          refine WL_guard_no E rfl rfl rfl rfl fun a E => ?_
          refine S_v E rfl (R_pickT E rfl rfl) rfl ?_
          clear E a; intro a E
          refine WL_nil ?_
          refine T_n ?_
          refine WP_condT E rfl rfl ?_
          refine WP_seq ?_
          refine WP_region ?_
          refine S_v E rfl (R_assign E rfl) rfl ?_
          clear E a; intro a E
          refine WL_nil ?_
          refine T_n ?_
          refine WP_ret ?_
          refine T_r ?_
          exact F_ret1 E Try.results9 rfl ⟨_, rfl, M_10, (hM_6.trans (hM_8.trans hM_10)), rfl, S⟩
        · replace E := E.val (t := 35) rfl hc_13
          replace E := E.val (t := 36) rfl hc_13
          replace hc_13 := of_decide_eq_false hc_13
          refine WL_guard_yes E rfl rfl ?_
          refine S_v E rfl (R_move E rfl) rfl ?_
          clear E a; intro a E
          refine WL_guard_yes E rfl rfl ?_
          refine S_v E rfl (R_lenV E rfl T24 h1.len) rfl ?_
          clear E a; intro a E
          refine WL_guard_yes E rfl rfl ?_
          refine S_v E rfl (R_gtr E rfl rfl) rfl ?_
          clear E a; intro a E
          refine S_v E rfl (R_pickF E rfl rfl) rfl ?_
          clear E a; intro a E
          refine S_v E rfl (R_move E rfl) rfl ?_
          clear E a; intro a E
          refine split_bool (decide (20 < (((l1).length : Nat) : Int))) (fun hc_14 => ?_) (fun hc_14 => ?_)
          · replace E := E.val (t := 39) rfl hc_14
            replace E := E.val (t := 40) rfl hc_14
            replace E := E.val (t := 41) rfl hc_14
            replace hc_14 := of_decide_eq_true hc_14
            refine WL_guard_no E rfl rfl rfl rfl fun a E => ?_
            refine WL_guard_no E rfl rfl rfl rfl fun a E => ?_
            refine WL_guard_no E rfl rfl rfl rfl fun a E => ?_
            refine S_v E rfl (R_pickT E rfl rfl) rfl ?_
            clear E a; intro a E
            refine WL_nil ?_
            refine T_n ?_
            refine WP_condT E rfl rfl ?_
            refine WP_seq ?_
            refine WP_region ?_
            refine S_v E rfl (R_assign E rfl) rfl ?_
            clear E a; intro a E
            refine WL_nil ?_
            refine T_n ?_
            refine WP_ret ?_
            refine T_r ?_
            exact F_ret1 E Try.results9 rfl ⟨_, rfl, M_10, (hM_6.trans (hM_8.trans hM_10)), rfl, S⟩
          · replace E := E.val (t := 39) rfl hc_14
            replace E := E.val (t := 40) rfl hc_14
            replace E := E.val (t := 41) rfl hc_14
            replace hc_14 := of_decide_eq_false hc_14
            refine WL_guard_yes E rfl rfl ?_
            refine S_v E rfl (R_move E rfl) rfl ?_
            clear E a; intro a E
            refine WL_guard_yes E rfl rfl ?_
            refine S_v E rfl (R_lenV E rfl T24 h2.len) rfl ?_
            clear E a; intro a E
            refine WL_guard_yes E rfl rfl ?_
            refine S_v E rfl (R_gtr E rfl rfl) rfl ?_
            clear E a; intro a E
            refine S_v E rfl (R_pickF E rfl rfl) rfl ?_
            clear E a; intro a E
            refine WL_nil ?_
            refine T_n ?_
            refine WP_cond E rfl (fun hc_15 => ?_) (fun hc_15 => ?_)
            · replace hc_15 := of_decide_eq_true hc_15
              refine WP_seq ?_
              refine WP_region ?_
              refine S_v E rfl (R_assign E rfl) rfl ?_
              clear E a; intro a E
              refine WL_nil ?_
              refine T_n ?_
              refine WP_ret ?_
              refine T_r ?_
              exact F_ret1 E Try.results9 rfl ⟨_, rfl, M_10, (hM_6.trans (hM_8.trans hM_10)), rfl, S⟩
            · replace hc_15 := of_decide_eq_false hc_15
              have hb0 : l0.length ≤ 20 := by omega
              have hb1 : l1.length ≤ 20 := by omega
              have hb2 : l2.length ≤ 20 := by omega
              have hmul : l0.length * l1.length ≤ 20 * 20 := Nat.mul_le_mul hb0 hb1
              have hcl := cr_len (fun x y => (x, y)) l1 l0
              have hmul3 : (crossF (fun x y => (x, y)) l0 l1).length * l2.length ≤ 400 * 20 := Nat.mul_le_mul (by omega) hb2
              have hcg : (crossG (fun x y z => (x, y, z)) l0 l1 l2).length ≤ 8000 := by rw [cg_len]; exact Nat.le_trans (Nat.mul_le_mul hb0 (Nat.mul_le_mul hb1 hb2)) (by decide)
              refine WP_skip ?_
              refine T_n ?_
              refine WP_seq ?_
              refine WP_region ?_
              refine S_v E rfl (R_move E rfl) rfl ?_
              clear E a; intro a E
              refine S_v E rfl (R_move E rfl) rfl ?_
              clear E a; intro a E
              refine S_x (X_pu E S rfl rfl rfl (impl_CrossJoin2 h0 h1 (by first | omega | decide) (by first | omega | decide)) (Hp.le.refl _) ?_)
              clear E a S; rintro a v_17 w M_16 hM_16 hv_17 S E
              replace h0 := h0.le hM_16
              replace h1 := h1.le hM_16
              replace h2 := h2.le hM_16
              replace hz_7 := hz_7.le hM_16
              replace hz_9 := hz_9.le hM_16
              replace hv_11 := hv_11.le RP2_mono hM_16
              refine S_v E rfl (R_assign E rfl) rfl ?_
              clear E a; intro a E
              refine WL_nil ?_
              refine T_n ?_
              refine WP_seq ?_
              refine WP_seq ?_
              refine WP_region ?_
              refine S_v E rfl (R_move E rfl) rfl ?_
              clear E a; intro a E
              refine S_v E rfl (R_lenV E rfl T51 hv_17.len) rfl ?_
              clear E a; intro a E
              refine S_v E rfl (R_move E rfl) rfl ?_
              clear E a; intro a E
              refine S_v E rfl (R_lenV E rfl T24 h0.len) rfl ?_
              clear E a; intro a E
              refine S_v E rfl (R_move E rfl) rfl ?_
              clear E a; intro a E
              refine S_v E rfl (R_lenV E rfl T24 h1.len) rfl ?_
              clear E a; intro a E
              refine S_v E rfl (R_mulx (m := ((((l0).length) * ((l1).length) : Nat) : Int)) E rfl rfl (by omega) (by omega)) rfl ?_
              clear E a; intro a E
              refine S_v E rfl (R_neq E rfl rfl) rfl ?_
              clear E a; intro a E
              refine S_v E rfl (R_move E rfl) rfl ?_
              clear E a; intro a E
              have hc_18 : (decide ((((crossF (fun x y => (x, y)) l0 l1).length : Nat) : Int) ≠ ((((l0).length) * ((l1).length) : Nat) : Int))) = false := by (clear S E; first | (simp; done) | decide | (simp [cr_len]; done) | (simp [cg_len, cr_len, Nat.mul_assoc]; done) | (have e := fm_get (by assumption) (by assumption) (by assumption); rw [e]; simp; done) | (have e := cg_get (by assumption) (by assumption) (by assumption); rw [e]; simp; done))
              replace E := E.val (t := 56) rfl hc_18
              replace E := E.val (t := 57) rfl hc_18
              refine WL_guard_yes E rfl rfl ?_
              refine S_v E rfl (R_move E rfl) rfl ?_
              clear E a; intro a E
              refine WL_guard_yes E rfl rfl ?_
              refine S_v E rfl (R_move E rfl) rfl ?_
              clear E a; intro a E
              refine WL_guard_yes E rfl rfl ?_
              refine S_x (X_pu E S rfl rfl rfl (impl_CrossJoin2Seq h0 h1 (by first | omega | decide) (by first | omega | decide)) (Hp.le.refl _) ?_)
              clear E a S; rintro a v_20 w M_19 hM_19 hv_20 S E
              replace h0 := h0.le hM_19
              replace h1 := h1.le hM_19
              replace h2 := h2.le hM_19
              replace hz_7 := hz_7.le hM_19
              replace hz_9 := hz_9.le hM_19
              replace hv_11 := hv_11.le RP2_mono hM_19
              replace hv_17 := hv_17.le RP2_mono hM_19
              refine WL_guard_yes E rfl rfl ?_
              refine S_v E rfl (R_move E rfl) rfl ?_
              clear E a; intro a E
              refine WL_guard_yes E rfl rfl ?_
              refine S_x (X_pu E S rfl rfl rfl (laws_eqPairs hv_20 hv_17) (Hp.le.refl _) ?_)
              clear E a S; rintro a _ w M_21 hM_21 rfl S E
              replace h0 := h0.le hM_21
              replace h1 := h1.le hM_21
              replace h2 := h2.le hM_21
              replace hz_7 := hz_7.le hM_21
              replace hz_9 := hz_9.le hM_21
              replace hv_11 := hv_11.le RP2_mono hM_21
              replace hv_17 := hv_17.le RP2_mono hM_21
              replace hv_20 := hv_20.le RP2_mono hM_21
              refine WL_guard_yes E rfl rfl ?_
              refine S_v E rfl (R_not E rfl) rfl ?_
              clear E a; intro a E
              refine S_v E rfl (R_pickF E rfl rfl) rfl ?_
              clear E a; intro a E
              refine WL_nil ?_
              refine T_n ?_
              have hc_22 : (!(decide (crossF (fun x y => (x, y)) l0 l1 = crossF (fun x y => (x, y)) l0 l1))) = false := by (clear S E; first | (simp; done) | decide | (simp [cr_len]; done) | (simp [cg_len, cr_len, Nat.mul_assoc]; done) | (have e := fm_get (by assumption) (by assumption) (by assumption); rw [e]; simp; done) | (have e := cg_get (by assumption) (by assumption) (by assumption); rw [e]; simp; done))
              refine WP_condF E rfl hc_22 ?_
              refine WP_skip ?_
              refine T_n ?_
              refine WP_seq ?_
              refine WP_seq ?_
              refine WP_region ?_
              refine S_v E rfl (R_move E rfl) rfl ?_
              clear E a; intro a E
              refine S_v E rfl (R_lenV E rfl T51 hv_17.len) rfl ?_
              clear E a; intro a E
              refine S_v E rfl (R_move E rfl) rfl ?_
              clear E a; intro a E
              refine WL_nil ?_
              refine T_n ?_
              refine WP_block ?_
              refine WP_loop (γ := Nat) (fun (k : Nat) a w => ∃ (M_23 : Hp), Hp.le M_21 M_23 ∧ St w M_23 (H) ∧ Env a 148 [] [(0, v0), (1, v1), (2, v2), (7, v_17), (65, v_17), (66, .int .i64 (((crossF (fun x y => (x, y)) l0 l1).length : Nat) : Int)), (67, .int .i64 ((k : Nat) : Int))] ∧ (k ≤ (crossF (fun x y => (x, y)) l0 l1).length)) (fun k => ((crossF (fun x y => (x, y)) l0 l1).length) - k) 0 ⟨M_21, Hp.le.refl _, S, E.keep ⟨rfl, rfl, rfl, rfl, rfl, rfl, rfl, trivial⟩, by ((try clear S); (try clear E); first | assumption | omega | rfl | (simp; done) | (simp_all; done) | (simp [List.take_add_one, *]; done) | grind [List.take_add_one])⟩ ?_
              try clear E
              try clear S
              try clear a
              try clear w
              rintro k a w ⟨M_23, hM_23, S, E, hL0_0⟩
              replace h0 := h0.le hM_23
              replace h1 := h1.le hM_23
              replace h2 := h2.le hM_23
              replace hz_7 := hz_7.le hM_23
              replace hz_9 := hz_9.le hM_23
              replace hv_11 := hv_11.le RP2_mono hM_23
              replace hv_17 := hv_17.le RP2_mono hM_23
              replace hv_20 := hv_20.le RP2_mono hM_23
              have hq : k < (crossF (fun x y => (x, y)) l0 l1).length → _ := fun h => fm_idx h
              refine WP_seq ?_
              refine WP_region ?_
              refine S_v E rfl (R_lss E rfl rfl) rfl ?_
              clear E a; intro a E
              refine WL_nil ?_
              refine T_n ?_
              refine WP_seq ?_
              refine WP_cond E rfl (fun hc_24 => ?_) (fun hc_24 => ?_)
              · replace hc_24 := of_decide_eq_true hc_24
                refine WP_skip ?_
                refine T_n ?_
                refine WP_seq ?_
                refine WP_block ?_
                refine WP_seq ?_
                refine WP_region ?_
                refine S_v E rfl (R_move E rfl) rfl ?_
                clear E a; intro a E
                obtain ⟨x_25, hx_25⟩ : ∃ x, (crossF (fun x y => (x, y)) l0 l1)[k]? = some x := ⟨_, List.getElem?_eq_getElem (by (first | omega | (simp; done) | (have h9 := hq (by omega); first | exact h9.2.1 | exact h9.2.2 | exact h9.1)))⟩
                obtain ⟨p_26, hp_26, qp_26⟩ := RdP2.at hv_17 hx_25
                refine S_v E rfl (R_idx E rfl rfl T51 hp_26 rfl) rfl ?_
                clear E a; intro a E
                refine S_v E rfl (R_loadA (cs := [.int .i64 x_25.1, .int .i64 x_25.2]) E rfl (Try.isAgg55 _) (Try.sizeOf55 _) S.imm qp_26) rfl ?_
                clear E a; intro a E
                refine S_x (X_alloc (cs := #[.int .i64 0, .int .i64 0]) E S rfl Try.zeroValue55 rfl ?_)
                clear E a S; rintro a w b_27 E S
                refine S_v E rfl (R_assign E rfl) rfl ?_
                clear E a; intro a E
                refine S_x0 (X_storeG (us := [.int .i64 x_25.1, .int .i64 x_25.2]) E S rfl rfl (Try.sizeOf55 _) rfl (by intro u hu; simp only [List.mem_cons, List.not_mem_nil, or_false] at hu; rcases hu with rfl | rfl <;> first | exact rfl | exact rfl) ?_)
                clear E a S; rintro a w E S
                replace S : St w M_23 (blk b_27 (.cells #[.int .i64 x_25.1, .int .i64 x_25.2] 55) :: _) := S
                have S0 := S; clear S
                obtain ⟨M_28, hM_28, hb_29, S⟩ := S0.freezeB
                clear S0
                replace h0 := h0.le hM_28
                replace h1 := h1.le hM_28
                replace h2 := h2.le hM_28
                replace hz_7 := hz_7.le hM_28
                replace hz_9 := hz_9.le hM_28
                replace hv_11 := hv_11.le RP2_mono hM_28
                replace hv_17 := hv_17.le RP2_mono hM_28
                replace hv_20 := hv_20.le RP2_mono hM_28
                refine WL_nil ?_
                refine T_n ?_
                refine WP_seq ?_
                have qp_26k29 := qp_26
                have hb_29k29 := hb_29
                replace S := S.mono_heap (w' := World.drew _) rfl
                refine WP_drawn (C := fun x w => agree M_28 w) (bf := (fun i => [])) [0, 1, 2, 3, 4, 5, 6, 7, 8, 9, 10, 11, 12, 13, 14, 15, 16] [0, 1, 2, 3, 4, 5, 6, 7, 8, 9, 10, 11, 12, 13, 14, 15, 16] Try.mixed (by kernel_rfl) (fun x hq => S.imm) ?_
                refine D_v E rfl rfl rfl (fun w hC => (R_loadGM E rfl (Try.isAgg55 _) (Try.sizeOf55 _) hC hb_29k29)) ?_
                clear E a; intro a E
                refine D_v E rfl rfl rfl (fun w hC => (R_move E rfl)) ?_
                clear E a; intro a E
                refine D_v E rfl rfl rfl (fun w hC => (R_move E rfl)) ?_
                clear E a; intro a E
                refine D_v E rfl rfl rfl (fun w hC => (R_move E rfl)) ?_
                clear E a; intro a E
                refine D_v E rfl rfl rfl (fun w hC => (R_lenV E rfl T24 h1.len)) ?_
                clear E a; intro a E
                refine D_v E rfl rfl rfl (fun w hC => (R_quon (p := k) (q := (l1).length) E rfl rfl (by first | decide | omega | (have h9 := hq (by omega); omega)) (by omega))) ?_
                clear E a; intro a E
                obtain ⟨x_30, hx_30⟩ : ∃ x, (l0)[k / ((l1).length)]? = some x := ⟨_, List.getElem?_eq_getElem (by (first | omega | (simp; done) | (have h9 := hq (by omega); first | exact h9.2.1 | exact h9.2.2 | exact h9.1)))⟩
                obtain ⟨p_31, hp_31, qp_31⟩ := h0.at hx_30
                refine D_v E rfl rfl rfl (fun w hC => (R_idx E rfl rfl T24 hp_31 rfl)) ?_
                clear E a; intro a E
                refine D_v E rfl rfl rfl (fun w hC => (R_loadM E rfl Try.isAgg3 hC qp_31)) ?_
                clear E a; intro a E
                refine D_v E rfl rfl rfl (fun w hC => (R_move E rfl)) ?_
                clear E a; intro a E
                refine D_v E rfl rfl rfl (fun w hC => (R_move E rfl)) ?_
                clear E a; intro a E
                refine D_v E rfl rfl rfl (fun w hC => (R_move E rfl)) ?_
                clear E a; intro a E
                refine D_v E rfl rfl rfl (fun w hC => (R_lenV E rfl T24 h1.len)) ?_
                clear E a; intro a E
                refine D_v E rfl rfl rfl (fun w hC => (R_remn (p := k) (q := (l1).length) E rfl rfl (by first | decide | omega | (have h9 := hq (by omega); omega)))) ?_
                clear E a; intro a E
                obtain ⟨x_32, hx_32⟩ : ∃ x, (l1)[k % ((l1).length)]? = some x := ⟨_, List.getElem?_eq_getElem (by (first | omega | (simp; done) | (have h9 := hq (by omega); first | exact h9.2.1 | exact h9.2.2 | exact h9.1)))⟩
                obtain ⟨p_33, hp_33, qp_33⟩ := h1.at hx_32
                refine D_v E rfl rfl rfl (fun w hC => (R_idx E rfl rfl T24 hp_33 rfl)) ?_
                clear E a; intro a E
                refine D_v E rfl rfl rfl (fun w hC => (R_loadM E rfl Try.isAgg3 hC qp_33)) ?_
                clear E a; intro a E
                refine D_v E rfl rfl rfl (fun w hC => (R_build (u := .agg #[.int .i64 x_30, .int .i64 x_32]) (vs := [.int .i64 x_30, .int .i64 x_32]) E rfl (fun w => FB55_0_1_ii x_30 x_32 w))) ?_
                clear E a; intro a E
                refine D_v E rfl rfl rfl (fun w hC => (R_neqA E rfl rfl (by kernel_rfl) (EQ55 x_25.1 x_25.2 x_30 x_32 _))) ?_
                clear E a; intro a E
                refine D_end (NoP_n ?_)
                refine T_n ?_
                have hc_34 : (decide (¬ (x_25.1 = x_30 ∧ x_25.2 = x_32 ∧ True))) = false := by (clear S E; first | (simp; done) | decide | (simp [cr_len]; done) | (simp [cg_len, cr_len, Nat.mul_assoc]; done) | (have e := fm_get (by assumption) (by assumption) (by assumption); rw [e]; simp; done) | (have e := cg_get (by assumption) (by assumption) (by assumption); rw [e]; simp; done))
                refine WP_condF E rfl hc_34 ?_
                refine WP_skip ?_
                refine B_n ?_
                refine T_n ?_
                refine WP_region ?_
                refine S_v E rfl (R_addx (m := ((k + 1 : Nat) : Int)) E rfl rfl (by omega) (by omega)) rfl ?_
                clear E a; intro a E
                refine S_v E rfl (R_move E rfl) rfl ?_
                clear E a; intro a E
                refine WL_nil ?_
                refine T_n ?_
                exact ⟨k + 1, ⟨M_28, (hM_23.trans hM_28), S, E.keep ⟨rfl, rfl, rfl, rfl, rfl, rfl, rfl, trivial⟩, by ((try clear S); (try clear E); first | assumption | omega | rfl | (simp; done) | (simp_all; done) | (simp [List.take_add_one, *]; done) | grind [List.take_add_one])⟩, by omega⟩
              · replace hc_24 := of_decide_eq_false hc_24
                refine WP_exit ?_
                refine T_x ?_
                refine T_x ?_
                refine B_x ?_
                refine T_n ?_
                refine WP_seq ?_
                refine WP_region ?_
                refine S_v E rfl (R_move E rfl) rfl ?_
                clear E a; intro a E
                refine S_v E rfl (R_move E rfl) rfl ?_
                clear E a; intro a E
                refine S_v E rfl (R_move E rfl) rfl ?_
                clear E a; intro a E
                refine S_x (X_pu E S rfl rfl rfl (impl_CrossJoin3 h0 h1 h2 (by first | omega | decide) (by first | omega | decide) (by first | omega | decide)) (Hp.le.refl _) ?_)
                clear E a S; rintro a v_36 w M_35 hM_35 hv_36 S E
                replace h0 := h0.le hM_35
                replace h1 := h1.le hM_35
                replace h2 := h2.le hM_35
                replace hz_7 := hz_7.le hM_35
                replace hz_9 := hz_9.le hM_35
                replace hv_11 := hv_11.le RP2_mono hM_35
                replace hv_17 := hv_17.le RP2_mono hM_35
                replace hv_20 := hv_20.le RP2_mono hM_35
                refine S_v E rfl (R_assign E rfl) rfl ?_
                clear E a; intro a E
                refine WL_nil ?_
                refine T_n ?_
                refine WP_seq ?_
                refine WP_seq ?_
                refine WP_region ?_
                refine S_v E rfl (R_move E rfl) rfl ?_
                clear E a; intro a E
                refine S_v E rfl (R_move E rfl) rfl ?_
                clear E a; intro a E
                refine S_v E rfl (R_move E rfl) rfl ?_
                clear E a; intro a E
                refine S_x (X_pu E S rfl rfl rfl (spec_CrossJoin3 h0 h1 h2 (by first | omega | decide) (by first | omega | decide) (by first | omega | decide)) (Hp.le.refl _) ?_)
                clear E a S; rintro a v_38 w M_37 hM_37 hv_38 S E
                replace h0 := h0.le hM_37
                replace h1 := h1.le hM_37
                replace h2 := h2.le hM_37
                replace hz_7 := hz_7.le hM_37
                replace hz_9 := hz_9.le hM_37
                replace hv_11 := hv_11.le RP2_mono hM_37
                replace hv_17 := hv_17.le RP2_mono hM_37
                replace hv_20 := hv_20.le RP2_mono hM_37
                replace hv_36 := hv_36.le RP3_mono hM_37
                refine S_v E rfl (R_assign E rfl) rfl ?_
                clear E a; intro a E
                refine WL_nil ?_
                refine T_n ?_
                refine WP_seq ?_
                refine WP_region ?_
                refine S_v E rfl (R_move E rfl) rfl ?_
                clear E a; intro a E
                refine S_v E rfl (R_move E rfl) rfl ?_
                clear E a; intro a E
                refine S_v E rfl (R_move E rfl) rfl ?_
                clear E a; intro a E
                refine S_x (X_pu E S rfl rfl rfl (spec_CrossJoin2 h0 h1 (by first | omega | decide) (by first | omega | decide)) (Hp.le.refl _) ?_)
                clear E a S; rintro a v_40 w M_39 hM_39 hv_40 S E
                replace h0 := h0.le hM_39
                replace h1 := h1.le hM_39
                replace h2 := h2.le hM_39
                replace hz_7 := hz_7.le hM_39
                replace hz_9 := hz_9.le hM_39
                replace hv_11 := hv_11.le RP2_mono hM_39
                replace hv_17 := hv_17.le RP2_mono hM_39
                replace hv_20 := hv_20.le RP2_mono hM_39
                replace hv_36 := hv_36.le RP3_mono hM_39
                replace hv_38 := hv_38.le RP3_mono hM_39
                refine S_x (X_pu E S rfl rfl rfl (laws_eqRef hv_17 hv_40) (Hp.le.refl _) ?_)
                clear E a S; rintro a _ w M_41 hM_41 rfl S E
                replace h0 := h0.le hM_41
                replace h1 := h1.le hM_41
                replace h2 := h2.le hM_41
                replace hz_7 := hz_7.le hM_41
                replace hz_9 := hz_9.le hM_41
                replace hv_11 := hv_11.le RP2_mono hM_41
                replace hv_17 := hv_17.le RP2_mono hM_41
                replace hv_20 := hv_20.le RP2_mono hM_41
                replace hv_36 := hv_36.le RP3_mono hM_41
                replace hv_38 := hv_38.le RP3_mono hM_41
                replace hv_40 := hv_40.le RP2_mono hM_41
                refine S_v E rfl (R_not E rfl) rfl ?_
                clear E a; intro a E
                refine S_v E rfl (R_move E rfl) rfl ?_
                clear E a; intro a E
                have hc_42 : (!(decide (crossF (fun x y => (x, y)) l0 l1 = crossF (fun x y => (x, y)) l0 l1))) = false := by (clear S E; first | (simp; done) | decide | (simp [cr_len]; done) | (simp [cg_len, cr_len, Nat.mul_assoc]; done) | (have e := fm_get (by assumption) (by assumption) (by assumption); rw [e]; simp; done) | (have e := cg_get (by assumption) (by assumption) (by assumption); rw [e]; simp; done))
                replace E := E.val (t := 103) rfl hc_42
                replace E := E.val (t := 104) rfl hc_42
                refine WL_guard_yes E rfl rfl ?_
                refine S_v E rfl (R_move E rfl) rfl ?_
                clear E a; intro a E
                refine WL_guard_yes E rfl rfl ?_
                refine S_v E rfl (R_lenV E rfl T58 hv_38.len) rfl ?_
                clear E a; intro a E
                refine WL_guard_yes E rfl rfl ?_
                refine S_v E rfl (R_move E rfl) rfl ?_
                clear E a; intro a E
                refine WL_guard_yes E rfl rfl ?_
                refine S_v E rfl (R_lenV E rfl T56 hv_36.len) rfl ?_
                clear E a; intro a E
                refine WL_guard_yes E rfl rfl ?_
                refine S_v E rfl (R_neq E rfl rfl) rfl ?_
                clear E a; intro a E
                refine S_v E rfl (R_pickF E rfl rfl) rfl ?_
                clear E a; intro a E
                refine WL_nil ?_
                refine T_n ?_
                have hc_43 : (decide ((((crossG (fun x y z => (x, y, z)) l0 l1 l2).length : Nat) : Int) ≠ (((crossG (fun x y z => (x, y, z)) l0 l1 l2).length : Nat) : Int))) = false := by (clear S E; first | (simp; done) | decide | (simp [cr_len]; done) | (simp [cg_len, cr_len, Nat.mul_assoc]; done) | (have e := fm_get (by assumption) (by assumption) (by assumption); rw [e]; simp; done) | (have e := cg_get (by assumption) (by assumption) (by assumption); rw [e]; simp; done))
                refine WP_condF E rfl hc_43 ?_
                refine WP_skip ?_
                refine T_n ?_
                refine WP_seq ?_
                refine WP_seq ?_
                refine WP_region ?_
                refine S_v E rfl (R_move E rfl) rfl ?_
                clear E a; intro a E
                refine S_v E rfl (R_lenV E rfl T56 hv_36.len) rfl ?_
                clear E a; intro a E
                refine S_v E rfl (R_move E rfl) rfl ?_
                clear E a; intro a E
                refine S_v E rfl (R_lenV E rfl T51 hv_17.len) rfl ?_
                clear E a; intro a E
                refine S_v E rfl (R_move E rfl) rfl ?_
                clear E a; intro a E
                refine S_v E rfl (R_lenV E rfl T24 h2.len) rfl ?_
                clear E a; intro a E
                refine S_v E rfl (R_mulx (m := ((((crossF (fun x y => (x, y)) l0 l1).length) * ((l2).length) : Nat) : Int)) E rfl rfl (by omega) (by omega)) rfl ?_
                clear E a; intro a E
                refine S_v E rfl (R_neq E rfl rfl) rfl ?_
                clear E a; intro a E
                refine WL_nil ?_
                refine T_n ?_
                have hc_44 : (decide ((((crossG (fun x y z => (x, y, z)) l0 l1 l2).length : Nat) : Int) ≠ ((((crossF (fun x y => (x, y)) l0 l1).length) * ((l2).length) : Nat) : Int))) = false := by (clear S E; first | (simp; done) | decide | (simp [cr_len]; done) | (simp [cg_len, cr_len, Nat.mul_assoc]; done) | (have e := fm_get (by assumption) (by assumption) (by assumption); rw [e]; simp; done) | (have e := cg_get (by assumption) (by assumption) (by assumption); rw [e]; simp; done))
                refine WP_condF E rfl hc_44 ?_
                refine WP_skip ?_
                refine T_n ?_
                refine WP_seq ?_
                refine WP_seq ?_
                refine WP_region ?_
                refine S_v E rfl (R_move E rfl) rfl ?_
                clear E a; intro a E
                refine S_v E rfl (R_lenV E rfl T56 hv_36.len) rfl ?_
                clear E a; intro a E
                refine S_v E rfl (R_move E rfl) rfl ?_
                clear E a; intro a E
                refine WL_nil ?_
                refine T_n ?_
                refine WP_block ?_
                refine WP_loop (γ := Nat) (fun (k : Nat) a w => ∃ (M_45 : Hp), Hp.le M_41 M_45 ∧ St w M_45 (H) ∧ Env a 148 [] [(2, v2), (7, v_17), (119, v_36), (120, .int .i64 (((crossG (fun x y z => (x, y, z)) l0 l1 l2).length : Nat) : Int)), (121, .int .i64 ((k : Nat) : Int))] ∧ (k ≤ (crossG (fun x y z => (x, y, z)) l0 l1 l2).length)) (fun k => ((crossG (fun x y z => (x, y, z)) l0 l1 l2).length) - k) 0 ⟨M_41, Hp.le.refl _, S, E.keep ⟨rfl, rfl, rfl, rfl, rfl, trivial⟩, by ((try clear S); (try clear E); first | assumption | omega | rfl | (simp; done) | (simp_all; done) | (simp [List.take_add_one, *]; done) | grind [List.take_add_one])⟩ ?_
                try clear E
                try clear S
                try clear a
                try clear w
                rintro k a w ⟨M_45, hM_45, S, E, hL1_0⟩
                replace h0 := h0.le hM_45
                replace h1 := h1.le hM_45
                replace h2 := h2.le hM_45
                replace hz_7 := hz_7.le hM_45
                replace hz_9 := hz_9.le hM_45
                replace hv_11 := hv_11.le RP2_mono hM_45
                replace hv_17 := hv_17.le RP2_mono hM_45
                replace hv_20 := hv_20.le RP2_mono hM_45
                replace hv_36 := hv_36.le RP3_mono hM_45
                replace hv_38 := hv_38.le RP3_mono hM_45
                replace hv_40 := hv_40.le RP2_mono hM_45
                have hq : k < (crossG (fun x y z => (x, y, z)) l0 l1 l2).length → _ := fun h => cg_idx h
                refine WP_seq ?_
                refine WP_region ?_
                refine S_v E rfl (R_lss E rfl rfl) rfl ?_
                clear E a; intro a E
                refine WL_nil ?_
                refine T_n ?_
                refine WP_seq ?_
                refine WP_cond E rfl (fun hc_46 => ?_) (fun hc_46 => ?_)
                · replace hc_46 := of_decide_eq_true hc_46
                  refine WP_skip ?_
                  refine T_n ?_
                  refine WP_seq ?_
                  refine WP_block ?_
                  refine WP_seq ?_
                  refine WP_region ?_
                  refine S_v E rfl (R_move E rfl) rfl ?_
                  clear E a; intro a E
                  obtain ⟨x_47, hx_47⟩ : ∃ x, (crossG (fun x y z => (x, y, z)) l0 l1 l2)[k]? = some x := ⟨_, List.getElem?_eq_getElem (by (first | omega | (simp; done) | (have h9 := hq (by omega); first | exact h9.2.1 | exact h9.2.2 | exact h9.1)))⟩
                  obtain ⟨p_48, hp_48, qp_48⟩ := RdP3.at hv_36 hx_47
                  refine S_v E rfl (R_idx E rfl rfl T56 hp_48 rfl) rfl ?_
                  clear E a; intro a E
                  refine S_v E rfl (R_loadA (cs := [.int .i64 x_47.1, .int .i64 x_47.2.1, .int .i64 x_47.2.2]) E rfl (Try.isAgg64 _) (Try.sizeOf64 _) S.imm qp_48) rfl ?_
                  clear E a; intro a E
                  refine S_x (X_alloc (cs := #[.int .i64 0, .int .i64 0, .int .i64 0]) E S rfl Try.zeroValue64 rfl ?_)
                  clear E a S; rintro a w b_49 E S
                  refine S_v E rfl (R_assign E rfl) rfl ?_
                  clear E a; intro a E
                  refine S_x0 (X_storeG (us := [.int .i64 x_47.1, .int .i64 x_47.2.1, .int .i64 x_47.2.2]) E S rfl rfl (Try.sizeOf64 _) rfl (by intro u hu; simp only [List.mem_cons, List.not_mem_nil, or_false] at hu; rcases hu with rfl | rfl | rfl <;> first | exact rfl | exact rfl | exact rfl) ?_)
                  clear E a S; rintro a w E S
                  replace S : St w M_45 (blk b_49 (.cells #[.int .i64 x_47.1, .int .i64 x_47.2.1, .int .i64 x_47.2.2] 64) :: _) := S
                  have S0 := S; clear S
                  obtain ⟨M_50, hM_50, hb_51, S⟩ := S0.freezeB
                  clear S0
                  replace h0 := h0.le hM_50
                  replace h1 := h1.le hM_50
                  replace h2 := h2.le hM_50
                  replace hz_7 := hz_7.le hM_50
                  replace hz_9 := hz_9.le hM_50
                  replace hv_11 := hv_11.le RP2_mono hM_50
                  replace hv_17 := hv_17.le RP2_mono hM_50
                  replace hv_20 := hv_20.le RP2_mono hM_50
                  replace hv_36 := hv_36.le RP3_mono hM_50
                  replace hv_38 := hv_38.le RP3_mono hM_50
                  replace hv_40 := hv_40.le RP2_mono hM_50
                  refine WL_nil ?_
                  refine T_n ?_
                  refine WP_seq ?_
                  refine WP_region ?_
                  refine S_v E rfl (R_move E rfl) rfl ?_
                  clear E a; intro a E
                  refine S_v E rfl (R_move E rfl) rfl ?_
                  clear E a; intro a E
                  refine S_v E rfl (R_move E rfl) rfl ?_
                  clear E a; intro a E
                  refine S_v E rfl (R_lenV E rfl T24 h2.len) rfl ?_
                  clear E a; intro a E
                  refine S_v E rfl (R_quon (p := k) (q := (l2).length) E rfl rfl (by first | decide | omega | (have h9 := hq (by omega); omega)) (by omega)) rfl ?_
                  clear E a; intro a E
                  obtain ⟨x_52, hx_52⟩ : ∃ x, (crossF (fun x y => (x, y)) l0 l1)[k / ((l2).length)]? = some x := ⟨_, List.getElem?_eq_getElem (by (first | omega | (simp; done) | (have h9 := hq (by omega); first | exact h9.2.1 | exact h9.2.2 | exact h9.1)))⟩
                  obtain ⟨p_53, hp_53, qp_53⟩ := RdP2.at hv_17 hx_52
                  refine S_v E rfl (R_idx E rfl rfl T51 hp_53 rfl) rfl ?_
                  clear E a; intro a E
                  refine S_v E rfl (R_loadA (cs := [.int .i64 x_52.1, .int .i64 x_52.2]) E rfl (Try.isAgg55 _) (Try.sizeOf55 _) S.imm qp_53) rfl ?_
                  clear E a; intro a E
                  refine S_x (X_alloc (cs := #[.int .i64 0, .int .i64 0]) E S rfl Try.zeroValue55 rfl ?_)
                  clear E a S; rintro a w b_54 E S
                  refine S_x0 (X_storeG (us := [.int .i64 x_52.1, .int .i64 x_52.2]) E S rfl rfl (Try.sizeOf55 _) rfl (by intro u hu; simp only [List.mem_cons, List.not_mem_nil, or_false] at hu; rcases hu with rfl | rfl <;> first | exact rfl | exact rfl) ?_)
                  clear E a S; rintro a w E S
                  replace S : St w M_50 (blk b_54 (.cells #[.int .i64 x_52.1, .int .i64 x_52.2] 55) :: _) := S
                  have S0 := S; clear S
                  obtain ⟨M_55, hM_55, hb_56, S⟩ := S0.freezeB
                  clear S0
                  replace h0 := h0.le hM_55
                  replace h1 := h1.le hM_55
                  replace h2 := h2.le hM_55
                  replace hz_7 := hz_7.le hM_55
                  replace hz_9 := hz_9.le hM_55
                  replace hv_11 := hv_11.le RP2_mono hM_55
                  replace hv_17 := hv_17.le RP2_mono hM_55
                  replace hv_20 := hv_20.le RP2_mono hM_55
                  replace hv_36 := hv_36.le RP3_mono hM_55
                  replace hv_38 := hv_38.le RP3_mono hM_55
                  replace hv_40 := hv_40.le RP2_mono hM_55
                  replace hb_51 := hM_55.2 _ _ hb_51
                  refine WL_nil ?_
                  refine T_n ?_
                  refine WP_seq ?_
                  have qp_48k56 := qp_48
                  have hb_51k56 := hb_51
                  have qp_53k56 := qp_53
                  have hb_56k56 := hb_56
                  replace S := S.mono_heap (w' := World.drew _) rfl
                  refine WP_drawn (C := fun x w => agree M_55 w) (bf := (fun i => [])) [0, 1, 2, 3, 4, 5, 6, 7, 8, 9, 10, 11, 12, 13] [0, 1, 2, 3, 4, 5, 6, 7, 8, 9, 10, 11, 12, 13] Try.mixed (by kernel_rfl) (fun x hq => S.imm) ?_
                  refine D_v E rfl rfl rfl (fun w hC => (R_loadGM E rfl (Try.isAgg64 _) (Try.sizeOf64 _) hC hb_51k56)) ?_
                  clear E a; intro a E
                  refine D_v E rfl rfl rfl (fun w hC => (R_fieldAddr E rfl (FA55_0 _))) ?_
                  clear E a; intro a E
                  refine D_v E rfl rfl rfl (fun w hC => (R_loadM E rfl Try.isAgg3 hC (cellM_boxo hb_56k56 rfl))) ?_
                  clear E a; intro a E
                  refine D_v E rfl rfl rfl (fun w hC => (R_fieldAddr E rfl (FA55_1 _))) ?_
                  clear E a; intro a E
                  refine D_v E rfl rfl rfl (fun w hC => (R_loadM E rfl Try.isAgg3 hC (cellM_boxo hb_56k56 rfl))) ?_
                  clear E a; intro a E
                  refine D_v E rfl rfl rfl (fun w hC => (R_move E rfl)) ?_
                  clear E a; intro a E
                  refine D_v E rfl rfl rfl (fun w hC => (R_move E rfl)) ?_
                  clear E a; intro a E
                  refine D_v E rfl rfl rfl (fun w hC => (R_move E rfl)) ?_
                  clear E a; intro a E
                  refine D_v E rfl rfl rfl (fun w hC => (R_lenV E rfl T24 h2.len)) ?_
                  clear E a; intro a E
                  refine D_v E rfl rfl rfl (fun w hC => (R_remn (p := k) (q := (l2).length) E rfl rfl (by first | decide | omega | (have h9 := hq (by omega); omega)))) ?_
                  clear E a; intro a E
                  obtain ⟨x_57, hx_57⟩ : ∃ x, (l2)[k % ((l2).length)]? = some x := ⟨_, List.getElem?_eq_getElem (by (first | omega | (simp; done) | (have h9 := hq (by omega); first | exact h9.2.1 | exact h9.2.2 | exact h9.1)))⟩
                  obtain ⟨p_58, hp_58, qp_58⟩ := h2.at hx_57
                  refine D_v E rfl rfl rfl (fun w hC => (R_idx E rfl rfl T24 hp_58 rfl)) ?_
                  clear E a; intro a E
                  refine D_v E rfl rfl rfl (fun w hC => (R_loadM E rfl Try.isAgg3 hC qp_58)) ?_
                  clear E a; intro a E
                  refine D_v E rfl rfl rfl (fun w hC => (R_build (u := .agg #[.int .i64 x_52.1, .int .i64 x_52.2, .int .i64 x_57]) (vs := [.int .i64 x_52.1, .int .i64 x_52.2, .int .i64 x_57]) E rfl (fun w => FB64_0_1_2_iii x_52.1 x_52.2 x_57 w))) ?_
                  clear E a; intro a E
                  refine D_v E rfl rfl rfl (fun w hC => (R_neqA E rfl rfl (by kernel_rfl) (EQ64 x_47.1 x_47.2.1 x_47.2.2 x_52.1 x_52.2 x_57 _))) ?_
                  clear E a; intro a E
                  refine D_end (NoP_n ?_)
                  refine T_n ?_
                  have hc_59 : (decide (¬ (x_47.1 = x_52.1 ∧ x_47.2.1 = x_52.2 ∧ x_47.2.2 = x_57 ∧ True))) = false := by (clear S E; first | (simp; done) | decide | (simp [cr_len]; done) | (simp [cg_len, cr_len, Nat.mul_assoc]; done) | (have e := fm_get (by assumption) (by assumption) (by assumption); rw [e]; simp; done) | (have e := cg_get (by assumption) (by assumption) (by assumption); rw [e]; simp; done))
                  refine WP_condF E rfl hc_59 ?_
                  refine WP_skip ?_
                  refine B_n ?_
                  refine T_n ?_
                  refine WP_region ?_
                  refine S_v E rfl (R_addx (m := ((k + 1 : Nat) : Int)) E rfl rfl (by omega) (by omega)) rfl ?_
                  clear E a; intro a E
                  refine S_v E rfl (R_move E rfl) rfl ?_
                  clear E a; intro a E
                  refine WL_nil ?_
                  refine T_n ?_
                  exact ⟨k + 1, ⟨M_55, (hM_45.trans (hM_50.trans hM_55)), S, E.keep ⟨rfl, rfl, rfl, rfl, rfl, trivial⟩, by ((try clear S); (try clear E); first | assumption | omega | rfl | (simp; done) | (simp_all; done) | (simp [List.take_add_one, *]; done) | grind [List.take_add_one])⟩, by omega⟩
                · replace hc_46 := of_decide_eq_false hc_46
                  refine WP_exit ?_
                  refine T_x ?_
                  refine T_x ?_
                  refine B_x ?_
                  refine T_n ?_
                  refine WP_seq ?_
                  refine WP_region ?_
                  refine S_v E rfl (R_assign E rfl) rfl ?_
                  clear E a; intro a E
                  refine WL_nil ?_
                  refine T_n ?_
                  refine WP_ret ?_
                  exact F_ret1 E Try.results9 rfl ⟨_, rfl, M_45, (hM_6.trans (hM_8.trans (hM_10.trans (hM_16.trans (hM_19.trans (hM_21.trans (hM_23.trans (hM_35.trans (hM_37.trans (hM_39.trans (hM_41.trans hM_45))))))))))), rfl, S⟩

end Go.Proofs.Ytbdacnblipmapaa.wFnCrossed
