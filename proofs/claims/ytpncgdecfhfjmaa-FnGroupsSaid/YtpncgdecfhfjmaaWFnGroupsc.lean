/- Walks through the functions that laws.FnGroups reaches: what each computes; no conditions beyond what each theorem states. -/
import Derived.Test.YtpncgdecfhfjmaaWFnGroupsb
set_option linter.unusedVariables false
set_option linter.unusedSimpArgs false
namespace Go.Proofs.Ytpncgdecfhfjmaa.wFnGroups
open Go Go.Sl
set_option maxRecDepth 100000 in
set_option maxHeartbeats 4000000 in
theorem it_GroupByMap {M : Hp} {v0 : Value} {l0 : List Int} (h0 : SeqV Try.prog v0 M (RInt) l0){v1 : Value} {f1 : Int → Int × Int} (h1 : PF1U Try.prog v1 M f1) (hb : l0.length ≤ 1000000000000) :
    Pu Try.prog (.func (.func 71) #[] #[]) M [v0, v1] (fun r M' => RdML M' r (grpE f1 l0)) := by
  refine Pu_enter Try.func71 rfl Try.ntmps71 rfl Try.call71 ?_
  intro a w M1 H hM1 S E
  replace h0 := h0.le hM1
  replace h1 := h1.le hM1
  replace S : St w M1 (mks [] :: _) := S.empty
  replace E : Env a 27 (([] : List Nat).map mk) _ := E
  refine WP_seq ?_
  refine WP_region ?_
  refine S_x (X_box (cs := #[v1]) E S rfl rfl (cells_one h1.1) ?_)
  clear E a S; rintro a w b_1 E S
  obtain ⟨M_2, hM_2, hb_1, S⟩ := S.freezeB
  replace h0 := h0.le hM_2
  replace h1 := h1.le hM_2
  refine S_v E rfl (R_assign E rfl) rfl ?_
  clear E a; intro a E
  refine WL_nil ?_
  refine T_n ?_
  refine WP_seq ?_
  refine WP_region ?_
  refine S_x (X_makeMap E S rfl ?_)
  clear E a S; rintro a w b_3 E S
  replace S : St w M_2 (OwnML 3 b_3 ([] : List (Int × List Int)) :: _) := newML S
  refine S_x (X_alloc (cs := #[.map none]) E S rfl Try.zeroValue65 rfl ?_)
  clear E a S; rintro a w b_4 E S
  refine S_x0 (X_store E S rfl rfl (Try.sizeOf65 _) rfl ?_)
  clear E a S; rintro a w E S
  refine WL_nil ?_
  refine T_n ?_
  refine WP_seq ?_
  refine WP_seq ?_
  refine WP_region ?_
  refine S_v E rfl (R_move E rfl) rfl ?_
  clear E a; intro a E
  refine WL_nil ?_
  refine T_n ?_
  refine WP_block ?_
  replace S := S.front1
  replace S := S.front1
  replace E := E.keep (l' := [(3, .pointer (some ⟨b_1, 0, none⟩)), (5, .pointer (some ⟨b_4, 0, none⟩)), (10, v0)]) ⟨rfl, rfl, rfl, trivial⟩
  replace S := S.front1
  replace S := reML S (show ([] : List (Int × List Int)) = grpE f1 (([] : List Int)) by first | rfl | (simp [grpE]; done) | exact (grpE_app ..).symm)
  replace S := S.front1
  have S0 := S; clear S; have S := St.pack [blk b_4 (.cells #[.map (some b_3)] 65), OwnML 3 b_3 (grpE f1 (([] : List Int)))] S0; clear S0
  refine WP_range (RV := RInt) (l := l0) (fun pre M c => c = bigs [blk b_4 (.cells #[.map (some b_3)] 65), OwnML 3 b_3 (grpE f1 (pre))]) (fun _ _ _ _ => False) E S rfl h0 (Hp.le.refl _) (fun _ _ _ h => by rw [h]; rfl) (by decide) (by rintro _ M M' c hM rfl; exact rfl) rfl ?_ ?_ ?_
  clear E S
  · rintro lb_6 rec_7 pre x _ a w M_5 _ G hM_5 hp_8 rfl rfl E S
    replace E : Env a 27 [] [(11, .int .i64 x), (3, .pointer (some ⟨b_1, 0, none⟩)), (5, .pointer (some ⟨b_4, 0, none⟩)), (10, v0)] := E
    replace S := S.swap.unpack2
    have hq0 := prefix_lt hp_8
    replace h0 := h0.le hM_5
    replace h1 := h1.le hM_5
    replace hb_1 := hM_5.2 _ _ hb_1
    have hpl := hp_8.length_le; simp at hpl
    refine WP_region ?_
    refine S_v E rfl (R_assign E rfl) rfl ?_
    clear E a; intro a E
    refine WL_nil ?_
    refine T_n ?_
    replace S := S.front2
    refine rb S ?_
    clear S; intro w S
    refine WP_block ?_
    refine WP_seq ?_
    refine WP_region ?_
    refine S_v E rfl (R_loadM E rfl Try.isAgg75 S.imm (cellM_box hb_1)) rfl ?_
    clear E a; intro a E
    refine S_v E rfl (R_move E rfl) rfl ?_
    clear E a; intro a E
    refine S_x (X_pu E S rfl rfl rfl (h1.2 x) (Hp.le.refl _) ?_)
    clear E a S; rintro a _ w M_10 hM_10 rfl S E
    replace h0 := h0.le hM_10
    replace h1 := h1.le hM_10
    replace hb_1 := hM_10.2 _ _ hb_1
    refine S_v E rfl (R_move E rfl) rfl ?_
    clear E a; intro a E
    refine S_v E rfl (R_extract E rfl rfl) rfl ?_
    clear E a; intro a E
    refine S_v E rfl (R_extract E rfl rfl) rfl ?_
    clear E a; intro a E
    refine S_v E rfl (R_assign E rfl) rfl ?_
    clear E a; intro a E
    refine S_v E rfl (R_assign E rfl) rfl ?_
    clear E a; intro a E
    refine WL_nil ?_
    refine T_n ?_
    refine DG_start Try.mixed ?_
    refine DG_split2 4 6 (by decide) (by kernel_rfl) ?_ ?_
    · have hb_1k10 := hb_1
      replace S := S.mono_heap (w' := World.drew _) rfl
      refine DG_end (C := fun x w => agree M_10 w ∧ (x = 0 → w.heap[b_4]? = some (.cells #[.map (some b_3)] 65)) ∧ (x = 2 → w.heap[b_4]? = some (.cells #[.map (some b_3)] 65))) (bf := (fun i => bif Nat.beq i 4 then [2] else bif Nat.beq i 6 then [2] else bif Nat.beq i 7 then [2] else bif Nat.beq i 8 then [0, 2] else [])) [0, 1, 2, 3, 5] [0, 1, 2, 3, 5, 4, 6, 7, 8] (by kernel_rfl) (fun x hq => ⟨S.imm, fun _ => (S.mem (.tail _ (.head _))), fun _ => (S.mem (.tail _ (.head _)))⟩) ?_
      refine D_v E rfl rfl rfl (fun w hC => (R_load E rfl (Try.isAgg65 _) (cell_blk (hC.2.1 rfl)))) ?_
      clear E a; intro a E
      refine D_v E rfl rfl rfl (fun w hC => (R_move E rfl)) ?_
      clear E a; intro a E
      refine D_v E rfl rfl rfl (fun w hC => (R_load E rfl (Try.isAgg65 _) (cell_blk (hC.2.2 rfl)))) ?_
      clear E a; intro a E
      refine D_v E rfl rfl rfl (fun w hC => (R_move E rfl)) ?_
      clear E a; intro a E
      refine D_v E rfl rfl rfl (fun w hC => (R_move E rfl)) ?_
      clear E a; intro a E
      replace S := S.front2
      have S0 := S; clear S
      obtain ⟨t_11, rest_12, v_13, hv_14, ht_15, hrest_16, S⟩ := lookML ((f1 x).1) S0
      clear S0
      refine D_x rfl rfl rfl (X_lookupE1 (vf := Prod.fst) (zb := nilL) E S rfl MT65 rfl rfl ?_)
      clear E a S; rintro a w E S
      replace S : St w M_10 (OwnM b_3 (encE Prod.fst t_11) :: _) := S
      rw [← hv_14] at E
      refine ⟨fun x hq hb => ⟨(agree_le (Hp.le.refl _) S.imm), (fun _ => (S.mem (.tail _ (.tail _ (.tail _ (.tail _ (.head _))))))), (fun e => by subst e; exact absurd hb (by decide))⟩, ?_⟩
      refine D_x rfl rfl rfl (X_buildI (ys := [(f1 x).2]) E S rfl T22 rfl rfl rfl ?_)
      clear E a S; rintro a w v_17 E S
      refine ⟨fun x hq hb => ⟨(agree_le (Hp.le.refl _) S.imm), (fun _ => (S.mem (.tail _ (.tail _ (.tail _ (.tail _ (.tail _ (.head _)))))))), (fun e => by subst e; exact absurd hb (by decide))⟩, ?_⟩
      replace S := S.front2
      replace S := S.front1
      refine D_x rfl rfl rfl (X_appendB (xs := getK [] (grpE f1 (pre)) ((f1 x).1)) (ys := [(f1 x).2]) E S rfl rfl rfl T22 (by (first | omega | (simp only [List.length_cons, List.length_nil]; first | omega | (refine Nat.le_trans (Nat.add_le_add_right (grpE_glen f1 _ pre) _) ?_; omega) | (refine Nat.le_trans (Nat.mul_le_mul_right _ (Nat.add_le_add_right (Nat.le_trans (grpE_glen _ _ _) (List.length_take_le ..)) _)) ?_; omega) | (refine Nat.le_trans (Nat.add_le_add_right (Nat.le_trans (grpE_glen _ _ _) (List.length_take_le ..)) _) ?_; omega)))) ?_)
      clear E a S; rintro a w v_18 E S
      refine ⟨fun x hq hb => ⟨(agree_le (Hp.le.refl _) S.imm), (fun _ => (S.mem (.tail _ (.tail _ (.tail _ (.tail _ (.head _))))))), (fun e => by subst e; exact absurd hb (by decide))⟩, ?_⟩
      replace S := S.front1
      replace S := S.front2
      replace S := S.front2
      replace S := S.front2
      refine D_x rfl rfl rfl (X_updateE (vf := Prod.fst) (u := (v_18, ((getK [] (grpE f1 (pre)) ((f1 x).1)) ++ [(f1 x).2]))) E S MT65 rfl rfl rfl ?_)
      clear E a S; rintro a w E S
      replace S := updML ht_15 hrest_16 S
      refine ⟨fun x hq hb => ⟨(agree_le (Hp.le.refl _) S.imm), (fun e => by subst e; exact absurd hb (by decide)), (fun e => by subst e; exact absurd hb (by decide))⟩, ?_⟩
      refine D_end (NoP_n ?_)
      refine B_n ?_
      replace S := S.front2
      replace S := S.front1
      replace S := reML S (show putK (grpE f1 (pre)) ((f1 x).1) ((getK [] (grpE f1 (pre)) ((f1 x).1)) ++ [(f1 x).2]) = grpE f1 ((pre ++ [x])) by first | rfl | (simp [grpE]; done) | exact (grpE_app ..).symm)
      replace S := S.front1
      have S0 := S; clear S; have S := (St.pack [blk b_4 (.cells #[.map (some b_3)] 65), OwnML 3 b_3 (grpE f1 ((pre ++ [x])))] S0).swap; clear S0
      exact ⟨M_10, _, hM_10, rfl, S⟩
    · have hb_1k18 := hb_1
      replace S := S.mono_heap (w' := World.drew _) rfl
      refine DG_end (C := fun x w => agree M_10 w ∧ (x = 0 → w.heap[b_4]? = some (.cells #[.map (some b_3)] 65)) ∧ (x = 2 → w.heap[b_4]? = some (.cells #[.map (some b_3)] 65))) (bf := (fun i => bif Nat.beq i 4 then [2] else bif Nat.beq i 6 then [] else bif Nat.beq i 7 then [2] else bif Nat.beq i 8 then [0, 2] else [])) [0, 1, 2, 3, 5] [0, 1, 2, 3, 5, 6, 4, 7, 8] (by kernel_rfl) (fun x hq => ⟨S.imm, fun _ => (S.mem (.tail _ (.head _))), fun _ => (S.mem (.tail _ (.head _)))⟩) ?_
      refine D_v E rfl rfl rfl (fun w hC => (R_load E rfl (Try.isAgg65 _) (cell_blk (hC.2.1 rfl)))) ?_
      clear E a; intro a E
      refine D_v E rfl rfl rfl (fun w hC => (R_move E rfl)) ?_
      clear E a; intro a E
      refine D_v E rfl rfl rfl (fun w hC => (R_load E rfl (Try.isAgg65 _) (cell_blk (hC.2.2 rfl)))) ?_
      clear E a; intro a E
      refine D_v E rfl rfl rfl (fun w hC => (R_move E rfl)) ?_
      clear E a; intro a E
      refine D_v E rfl rfl rfl (fun w hC => (R_move E rfl)) ?_
      clear E a; intro a E
      refine D_x rfl rfl rfl (X_buildI (ys := [(f1 x).2]) E S rfl T22 rfl rfl rfl ?_)
      clear E a S; rintro a w v_19 E S
      refine ⟨fun x hq hb => ⟨(agree_le (Hp.le.refl _) S.imm), (fun _ => (S.mem (.tail _ (.tail _ (.head _))))), (fun _ => (S.mem (.tail _ (.tail _ (.head _)))))⟩, ?_⟩
      replace S := S.front3
      have S0 := S; clear S
      obtain ⟨t_20, rest_21, v_22, hv_23, ht_24, hrest_25, S⟩ := lookML ((f1 x).1) S0
      clear S0
      refine D_x rfl rfl rfl (X_lookupE1 (vf := Prod.fst) (zb := nilL) E S rfl MT65 rfl rfl ?_)
      clear E a S; rintro a w E S
      replace S : St w M_10 (OwnM b_3 (encE Prod.fst t_20) :: _) := S
      rw [← hv_23] at E
      refine ⟨fun x hq hb => ⟨(agree_le (Hp.le.refl _) S.imm), (fun _ => (S.mem (.tail _ (.tail _ (.tail _ (.tail _ (.tail _ (.head _)))))))), (fun e => by subst e; exact absurd hb (by decide))⟩, ?_⟩
      replace S := S.front1
      replace S := S.front3
      refine D_x rfl rfl rfl (X_appendB (xs := getK [] (grpE f1 (pre)) ((f1 x).1)) (ys := [(f1 x).2]) E S rfl rfl rfl T22 (by (first | omega | (simp only [List.length_cons, List.length_nil]; first | omega | (refine Nat.le_trans (Nat.add_le_add_right (grpE_glen f1 _ pre) _) ?_; omega) | (refine Nat.le_trans (Nat.mul_le_mul_right _ (Nat.add_le_add_right (Nat.le_trans (grpE_glen _ _ _) (List.length_take_le ..)) _)) ?_; omega) | (refine Nat.le_trans (Nat.add_le_add_right (Nat.le_trans (grpE_glen _ _ _) (List.length_take_le ..)) _) ?_; omega)))) ?_)
      clear E a S; rintro a w v_26 E S
      refine ⟨fun x hq hb => ⟨(agree_le (Hp.le.refl _) S.imm), (fun _ => (S.mem (.tail _ (.tail _ (.tail _ (.tail _ (.head _))))))), (fun e => by subst e; exact absurd hb (by decide))⟩, ?_⟩
      replace S := S.front1
      replace S := S.front2
      replace S := S.front2
      replace S := S.front2
      refine D_x rfl rfl rfl (X_updateE (vf := Prod.fst) (u := (v_26, ((getK [] (grpE f1 (pre)) ((f1 x).1)) ++ [(f1 x).2]))) E S MT65 rfl rfl rfl ?_)
      clear E a S; rintro a w E S
      replace S := updML ht_24 hrest_25 S
      refine ⟨fun x hq hb => ⟨(agree_le (Hp.le.refl _) S.imm), (fun e => by subst e; exact absurd hb (by decide)), (fun e => by subst e; exact absurd hb (by decide))⟩, ?_⟩
      refine D_end (NoP_n ?_)
      refine B_n ?_
      replace S := S.front2
      replace S := S.front1
      replace S := reML S (show putK (grpE f1 (pre)) ((f1 x).1) ((getK [] (grpE f1 (pre)) ((f1 x).1)) ++ [(f1 x).2]) = grpE f1 ((pre ++ [x])) by first | rfl | (simp [grpE]; done) | exact (grpE_app ..).symm)
      replace S := S.front1
      have S0 := S; clear S; have S := (St.pack [blk b_4 (.cells #[.map (some b_3)] 65), OwnML 3 b_3 (grpE f1 ((pre ++ [x])))] S0).swap; clear S0
      exact ⟨M_10, _, hM_10, rfl, S⟩
  · rintro a w M_27 _ D_28 hM_27 rfl S E
    replace S := S.unpack2
    replace h0 := h0.le hM_27
    replace h1 := h1.le hM_27
    replace hb_1 := hM_27.2 _ _ hb_1
    refine B_n ?_
    refine T_n ?_
    refine WP_seq ?_
    refine WP_region ?_
    refine S_v E rfl (R_load E rfl (Try.isAgg65 _) (cell_blk (S.mem (.head _)))) rfl ?_
    clear E a; intro a E
    refine S_v E rfl (R_assign E rfl) rfl ?_
    clear E a; intro a E
    refine WL_nil ?_
    refine T_n ?_
    refine WP_ret ?_
    replace S := S.front1
    have S0 := S; clear S
    obtain ⟨M_29, hM_29, hm_30, S⟩ := frzML2 S0 (by (exact fun e he => Nat.le_trans (grpE_elen e he) (by first | omega | (rw [List.length_take]; omega))))
    clear S0
    replace h0 := h0.le hM_29
    replace h1 := h1.le hM_29
    replace hb_1 := hM_29.2 _ _ hb_1
    replace S := S.drop
    exact F_retM1 E S Try.results71 rfl (fun w S => ⟨_, rfl, M_29, (hM_2.trans (hM_27.trans hM_29)), (by rw [show (grpE f1 l0) = (grpE f1 (l0)) from by ((try clear S); (try clear E); first | rfl | (simp; done) | (simp_all; done) | grind [List.take_add_one])]; exact hm_30), S⟩)
  · rintro _ _ _ _ _ _ _ _ _ hX; exact hX.elim

set_option maxRecDepth 100000 in
set_option maxHeartbeats 4000000 in
theorem it_GroupBy1 {M : Hp} {v1 : Value} {f1 : Int → Int} (h1 : PF1I Try.prog v1 M f1) {bx1 : Nat} (hbx1 : M bx1 = some (.cells #[v1] 67)) {x0 : Int} :
    Pu Try.prog (.func (.func 101) #[] #[.pointer (some ⟨bx1, 0, none⟩)]) M [.int .i64 x0] (fun r M' => r = .tuple #[.int .i64 (f1 x0), .int .i64 x0]) := by
  refine Pu_enter Try.func101 rfl Try.ntmps101 rfl Try.call101 ?_
  intro a w M1 H hM1 S E
  replace h1 := h1.le hM1
  replace hbx1 := hM1.2 _ _ hbx1
  refine WP_seq ?_
  refine WP_region ?_
  refine S_v E rfl (R_assign E rfl) rfl ?_
  clear E a; intro a E
  refine S_v E rfl (R_assign E rfl) rfl ?_
  clear E a; intro a E
  refine WL_nil ?_
  refine T_n ?_
  refine WP_seq ?_
  refine WP_region ?_
  refine S_v E rfl (R_loadM E rfl Try.isAgg67 S.imm (cellM_box hbx1)) rfl ?_
  clear E a; intro a E
  refine S_v E rfl (R_move E rfl) rfl ?_
  clear E a; intro a E
  refine S_x (X_pu E S rfl rfl rfl (h1.2 x0) (Hp.le.refl _) ?_)
  clear E a S; rintro a _ w M_1 hM_1 rfl S E
  replace h1 := h1.le hM_1
  replace hbx1 := hM_1.2 _ _ hbx1
  refine S_v E rfl (R_move E rfl) rfl ?_
  clear E a; intro a E
  refine S_v E rfl (R_assign E rfl) rfl ?_
  clear E a; intro a E
  refine S_v E rfl (R_assign E rfl) rfl ?_
  clear E a; intro a E
  refine WL_nil ?_
  refine T_n ?_
  refine WP_ret ?_
  exact F_ret2 E Try.results101 rfl rfl ⟨_, rfl, M_1, hM_1, (by first | rfl | (simp; done) | (simp_all; done)), S⟩

set_option maxRecDepth 100000 in
set_option maxHeartbeats 4000000 in
theorem it_GroupBy {M : Hp} {v0 : Value} {l0 : List Int} (h0 : SeqV Try.prog v0 M (RInt) l0){v1 : Value} {f1 : Int → Int} (h1 : PF1I Try.prog v1 M f1) (hb : l0.length ≤ 1000000000000) :
    Pu Try.prog (.func (.func 75) #[] #[]) M [v0, v1] (fun r M' => RdML M' r (grpE (fun x => (f1 x, x)) l0)) := by
  refine Pu_enter Try.func75 rfl Try.ntmps75 rfl Try.call75 ?_
  intro a w M1 H hM1 S E
  replace h0 := h0.le hM1
  replace h1 := h1.le hM1
  refine WP_seq ?_
  refine WP_region ?_
  refine S_x (X_box (cs := #[v1]) E S rfl rfl (cells_one h1.1) ?_)
  clear E a S; rintro a w b_1 E S
  obtain ⟨M_2, hM_2, hb_1, S⟩ := S.freezeB
  replace h0 := h0.le hM_2
  replace h1 := h1.le hM_2
  refine S_v E rfl (R_assign E rfl) rfl ?_
  clear E a; intro a E
  refine WL_nil ?_
  refine T_n ?_
  refine WP_seq ?_
  refine WP_region ?_
  refine S_v E rfl (R_move E rfl) rfl ?_
  clear E a; intro a E
  refine S_v E rfl (R_makeFunc E rfl rfl) rfl ?_
  clear E a; intro a E
  refine S_x (X_pu E S rfl rfl rfl (it_GroupByMap h0 (f1 := (fun x => (f1 x, x))) ⟨rfl, fun zx0 => it_GroupBy1 (x0 := zx0) (f1 := f1) h1 hb_1⟩ (by (first | omega | (simp; omega) | (simp; done) | (simp_all; omega) | grind))) (Hp.le.refl _) ?_)
  clear E a S; rintro a v_4 w M_3 hM_3 hv_4 S E
  replace h0 := h0.le hM_3
  replace h1 := h1.le hM_3
  replace hb_1 := hM_3.2 _ _ hb_1
  refine S_v E rfl (R_assign E rfl) rfl ?_
  clear E a; intro a E
  refine WL_nil ?_
  refine T_n ?_
  refine WP_ret ?_
  exact F_ret1 E Try.results75 rfl ⟨_, rfl, M_3, (hM_2.trans hM_3), hv_4, S⟩

set_option maxRecDepth 100000 in
set_option maxHeartbeats 4000000 in
theorem impl_GroupBySeq {M : Hp} {v0 : Value} {l0 : List Int} (h0 : RdI M v0 l0){kk1 kn1 : Int} (gk1 : -9223372036854775808 ≤ kn1 ∧ kn1 ≤ 9223372036854775807) (hb : l0.length ≤ 1000000000000) :
    Pu Try.prog (.func (.func 34) #[] #[]) M [v0, .agg #[.int .i64 kk1, .int .i64 kn1]] (fun r M' => RdS 2 RG2 M' r (grpS (fun x => (keyAt kk1 kn1 x 0, x)) l0)) := by
  refine Pu_enter Try.func34 rfl Try.ntmps34 rfl Try.call34 ?_
  intro a w M1 H hM1 S E
  replace h0 := h0.le hM1
  have b0 := h0.bound
  refine WP_seq ?_
  refine WP_region ?_
  refine S_x (X_box (cs := #[.int .i64 kk1, .int .i64 kn1]) E S rfl rfl rfl ?_)
  clear E a S; rintro a w b_1 E S
  obtain ⟨M_2, hM_2, hb_1, S⟩ := S.freezeB
  replace h0 := h0.le hM_2
  refine S_v E rfl (R_assign E rfl) rfl ?_
  clear E a; intro a E
  refine WL_nil ?_
  refine T_n ?_
  refine WP_seq ?_
  have hb_1k2 := hb_1
  replace S := S.mono_heap (w' := World.drew _) rfl
  refine WP_drawn (C := fun x w => agree M_2 w) (bf := (fun i => [])) [0, 2, 3, 6] [0, 2, 3, 1, 4, 5, 6] Try.mixed (by kernel_rfl) (fun x hq => S.imm) ?_
  refine D_v E rfl rfl rfl (fun w hC => (R_move E rfl)) ?_
  clear E a; intro a E
  refine D_v E rfl rfl rfl (fun w hC => (R_loadGM E rfl (Try.isAgg24 _) (Try.sizeOf24 _) hC hb_1k2)) ?_
  clear E a; intro a E
  refine D_v E rfl rfl rfl (fun w hC => (R_makeFunc E rfl rfl)) ?_
  clear E a; intro a E
  refine D_x rfl rfl rfl (X_pu E S rfl rfl rfl (slices_Values h0) (Hp.le.refl _) ?_)
  clear E a S; rintro a v_4 w M_3 hM_3 hv_4 S E
  replace h0 := h0.le hM_3
  replace hb_1 := hM_3.2 _ _ hb_1
  refine ⟨fun x hq hb => (agree_le hM_3 S.imm), ?_⟩
  refine D_x rfl rfl rfl (X_pu E S rfl rfl rfl (it_GroupBy hv_4 ⟨rfl, fun zx1 => Key_of (x1 := zx1) (by omega)⟩ (by (first | omega | (simp; omega) | (simp; done) | (simp_all; omega) | grind))) (Hp.le.refl _) ?_)
  clear E a S; rintro a v_6 w M_5 hM_5 hv_6 S E
  replace h0 := h0.le hM_5
  replace hb_1 := hM_5.2 _ _ hb_1
  replace hv_4 := hv_4.le hM_5
  refine ⟨fun x hq hb => (agree_le (hM_3.trans hM_5) S.imm), ?_⟩
  refine D_x rfl rfl rfl (X_pu E S rfl rfl rfl (impl_groups hv_6 (by first | omega | (exact Nat.le_trans (grpE_len _ _) (by first | omega | (simp; omega))) | (first | omega | (simp; omega) | (simp; done) | (simp_all; omega) | grind)) (by (exact fun e he => Nat.le_trans (grpE_elen e he) (by omega)))) (Hp.le.refl _) ?_)
  clear E a S; rintro a v_8 w M_7 hM_7 hv_8 S E
  replace h0 := h0.le hM_7
  replace hb_1 := hM_7.2 _ _ hb_1
  replace hv_4 := hv_4.le hM_7
  replace hv_6 := hv_6.le hM_7
  refine ⟨fun x hq hb => (agree_le (hM_3.trans (hM_5.trans hM_7)) S.imm), ?_⟩
  refine D_v E rfl rfl rfl (fun w hC => (R_assign E rfl)) ?_
  clear E a; intro a E
  refine D_end (NoP_n ?_)
  refine T_n ?_
  refine WP_ret ?_
  exact F_ret1 E Try.results34 rfl ⟨_, rfl, M_7, (hM_2.trans (hM_3.trans (hM_5.trans hM_7))), (by rw [show (grpS (fun x => (keyAt kk1 kn1 x 0, x)) l0) = (srtK Prod.fst (grpE (fun x => ((fun x => keyAt kk1 kn1 x 0) x, x)) l0)) from by rfl]; exact hv_8), S⟩

set_option maxRecDepth 100000 in
set_option maxHeartbeats 4000000 in
theorem lo_GroupByMap {M : Hp} {v0 : Value} {l0 : List Int} (h0 : RdI M v0 l0){v1 : Value} {f1 : Int → Int × Int} (h1 : PF1U Try.prog v1 M f1) (hb : l0.length ≤ 1000000000000) :
    Pu Try.prog (.func (.func 67) #[] #[]) M [v0, v1] (fun r M' => RdML M' r (grpE f1 l0)) := by
  refine Pu_enter Try.func67 rfl Try.ntmps67 rfl Try.call67 ?_
  intro a w M1 H hM1 S E
  replace h0 := h0.le hM1
  replace h1 := h1.le hM1
  have b0 := h0.bound
  refine WP_seq ?_
  refine WP_region ?_
  refine S_v E rfl (R_assign E rfl) rfl ?_
  clear E a; intro a E
  refine WL_nil ?_
  refine T_n ?_
  refine WP_seq ?_
  refine WP_region ?_
  refine S_x (X_makeMap E S rfl ?_)
  clear E a S; rintro a w b_1 E S
  replace S : St w M1 (OwnML 3 b_1 ([] : List (Int × List Int)) :: _) := newML S
  refine S_v E rfl (R_assign E rfl) rfl ?_
  clear E a; intro a E
  refine WL_nil ?_
  refine T_n ?_
  refine WP_seq ?_
  refine WP_seq ?_
  refine WP_region ?_
  refine S_v E rfl (R_move E rfl) rfl ?_
  clear E a; intro a E
  refine S_v E rfl (R_lenV E rfl T22 h0.len) rfl ?_
  clear E a; intro a E
  refine S_v E rfl (R_move E rfl) rfl ?_
  clear E a; intro a E
  refine WL_nil ?_
  refine T_n ?_
  refine WP_block ?_
  replace S := reML S (show ([] : List (Int × List Int)) = grpE f1 (l0.take 0) by first | rfl | (simp [grpE]; done) | exact grpE_step (by assumption))
  refine WP_loop (γ := Nat) (fun (k : Nat) a w => ∃ (M_2 : Hp), Hp.le M1 M_2 ∧ St w M_2 (OwnML 3 b_1 (grpE f1 (l0.take k)) :: H) ∧ Env a 34 [] [(0, v0), (1, v1), (5, .map (some b_1)), (11, .int .i64 (((l0).length : Nat) : Int)), (12, .int .i64 ((k : Nat) : Int))] ∧ (k ≤ (l0).length)) (fun k => ((l0).length) - k) 0 ⟨M1, Hp.le.refl _, S, E.keep ⟨rfl, rfl, rfl, rfl, rfl, trivial⟩, by ((try clear S); (try clear E); first | assumption | omega | rfl | (simp; done) | (simp_all; done) | (simp [List.take_add_one, *]; done) | grind [List.take_add_one])⟩ ?_
  try clear E
  try clear S
  try clear a
  try clear w
  rintro k a w ⟨M_2, hM_2, S, E, hL0_0⟩
  replace h0 := h0.le hM_2
  replace h1 := h1.le hM_2
  refine WP_seq ?_
  refine WP_region ?_
  refine S_v E rfl (R_lss E rfl rfl) rfl ?_
  clear E a; intro a E
  refine WL_nil ?_
  refine T_n ?_
  refine WP_seq ?_
  refine WP_cond E rfl (fun hc_3 => ?_) (fun hc_3 => ?_)
  · replace hc_3 := of_decide_eq_true hc_3
    refine WP_skip ?_
    refine T_n ?_
    refine WP_seq ?_
    refine WP_block ?_
    refine WP_seq ?_
    refine WP_region ?_
    refine S_v E rfl (R_move E rfl) rfl ?_
    clear E a; intro a E
    refine S_v E rfl (R_assign E rfl) rfl ?_
    clear E a; intro a E
    refine WL_nil ?_
    refine T_n ?_
    refine WP_seq ?_
    refine WP_region ?_
    refine S_v E rfl (R_move E rfl) rfl ?_
    clear E a; intro a E
    refine S_v E rfl (R_move E rfl) rfl ?_
    clear E a; intro a E
    refine S_v E rfl (R_move E rfl) rfl ?_
    clear E a; intro a E
    obtain ⟨x_4, hx_4⟩ : ∃ x, (l0)[k]? = some x := ⟨_, List.getElem?_eq_getElem (by first | omega | (simp; done) | (simp; omega) | (simp_all; omega))⟩
    obtain ⟨p_5, hp_5, qp_5⟩ := h0.at hx_4
    refine S_v E rfl (R_idx E rfl rfl T22 hp_5 rfl) rfl ?_
    clear E a; intro a E
    refine S_v E rfl (R_loadM E rfl Try.isAgg3 S.imm qp_5) rfl ?_
    clear E a; intro a E
    refine S_x (X_pu E S rfl rfl rfl (h1.2 x_4) (Hp.le.refl _) ?_)
    clear E a S; rintro a _ w M_6 hM_6 rfl S E
    replace h0 := h0.le hM_6
    replace h1 := h1.le hM_6
    refine S_v E rfl (R_move E rfl) rfl ?_
    clear E a; intro a E
    refine S_v E rfl (R_extract E rfl rfl) rfl ?_
    clear E a; intro a E
    refine S_v E rfl (R_extract E rfl rfl) rfl ?_
    clear E a; intro a E
    refine S_v E rfl (R_assign E rfl) rfl ?_
    clear E a; intro a E
    refine S_v E rfl (R_assign E rfl) rfl ?_
    clear E a; intro a E
    refine WL_nil ?_
    refine T_n ?_
    refine WP_region ?_
    refine S_v E rfl (R_move E rfl) rfl ?_
    clear E a; intro a E
    refine S_v E rfl (R_move E rfl) rfl ?_
    clear E a; intro a E
    refine S_v E rfl (R_move E rfl) rfl ?_
    clear E a; intro a E
    refine S_v E rfl (R_move E rfl) rfl ?_
    clear E a; intro a E
    have S0 := S; clear S
    obtain ⟨t_7, rest_8, v_9, hv_10, ht_11, hrest_12, S⟩ := lookML ((f1 x_4).1) S0
    clear S0
    refine S_x (X_lookupE1 (vf := Prod.fst) (zb := nilL) E S rfl MT65 rfl rfl ?_)
    clear E a S; rintro a w E S
    replace S : St w M_6 (OwnM b_1 (encE Prod.fst t_7) :: _) := S
    rw [← hv_10] at E
    refine S_v E rfl (R_move E rfl) rfl ?_
    clear E a; intro a E
    refine S_x (X_buildI (ys := [(f1 x_4).2]) E S rfl T22 rfl rfl rfl ?_)
    clear E a S; rintro a w v_13 E S
    replace S := S.front2
    replace S := S.front1
    refine S_x (X_appendB (xs := getK [] (grpE f1 (l0.take k)) ((f1 x_4).1)) (ys := [(f1 x_4).2]) E S rfl rfl rfl T22 (by (first | omega | (simp only [List.length_cons, List.length_nil]; first | omega | (refine Nat.le_trans (Nat.add_le_add_right (grpE_glen f1 _ pre) _) ?_; omega) | (refine Nat.le_trans (Nat.mul_le_mul_right _ (Nat.add_le_add_right (Nat.le_trans (grpE_glen _ _ _) (List.length_take_le ..)) _)) ?_; omega) | (refine Nat.le_trans (Nat.add_le_add_right (Nat.le_trans (grpE_glen _ _ _) (List.length_take_le ..)) _) ?_; omega)))) ?_)
    clear E a S; rintro a w v_14 E S
    replace S := S.front1
    replace S := S.front2
    replace S := S.front2
    replace S := S.front2
    refine S_x0 (X_updateE (vf := Prod.fst) (u := (v_14, ((getK [] (grpE f1 (l0.take k)) ((f1 x_4).1)) ++ [(f1 x_4).2]))) E S MT65 rfl rfl rfl ?_)
    clear E a S; rintro a w E S
    replace S := updML ht_11 hrest_12 S
    refine WL_nil ?_
    refine B_n ?_
    refine T_n ?_
    refine WP_region ?_
    refine S_v E rfl (R_addx (m := ((k + 1 : Nat) : Int)) E rfl rfl (by omega) (by omega)) rfl ?_
    clear E a; intro a E
    refine S_v E rfl (R_move E rfl) rfl ?_
    clear E a; intro a E
    refine WL_nil ?_
    refine T_n ?_
    replace S := reML S (show putK (grpE f1 (l0.take k)) ((f1 x_4).1) ((getK [] (grpE f1 (l0.take k)) ((f1 x_4).1)) ++ [(f1 x_4).2]) = grpE f1 (l0.take (k + 1)) by first | rfl | (simp [grpE]; done) | exact grpE_step (by assumption))
    exact ⟨k + 1, ⟨M_6, (hM_2.trans hM_6), S, E.keep ⟨rfl, rfl, rfl, rfl, rfl, trivial⟩, by ((try clear S); (try clear E); first | assumption | omega | rfl | (simp; done) | (simp_all; done) | (simp [List.take_add_one, *]; done) | grind [List.take_add_one])⟩, by omega⟩
  · replace hc_3 := of_decide_eq_false hc_3
    refine WP_exit ?_
    refine T_x ?_
    refine T_x ?_
    refine B_x ?_
    refine T_n ?_
    refine WP_seq ?_
    refine WP_region ?_
    refine S_v E rfl (R_move E rfl) rfl ?_
    clear E a; intro a E
    refine S_v E rfl (R_assign E rfl) rfl ?_
    clear E a; intro a E
    refine WL_nil ?_
    refine T_n ?_
    refine WP_ret ?_
    have S0 := S; clear S
    obtain ⟨M_15, hM_15, hm_16, S⟩ := frzML2 S0 (by (exact fun e he => Nat.le_trans (grpE_elen e he) (by first | omega | (rw [List.length_take]; omega))))
    clear S0
    replace h0 := h0.le hM_15
    replace h1 := h1.le hM_15
    exact F_ret1 E Try.results67 rfl ⟨_, rfl, M_15, (hM_2.trans hM_15), (by rw [show (grpE f1 l0) = (grpE f1 (l0.take k)) from by (rw [List.take_of_length_le (by omega)])]; exact hm_16), S⟩

set_option maxRecDepth 100000 in
set_option maxHeartbeats 4000000 in
theorem impl_GroupByMap1 {M : Hp} {kk8 kn8 : Int} (gk8 : -9223372036854775808 ≤ kn8 ∧ kn8 ≤ 9223372036854775807) {bx8 : Nat} (hbx8 : M bx8 = some (.cells #[.int .i64 kk8, .int .i64 kn8] 24)) {kk9 kn9 : Int} (gk9 : -9223372036854775808 ≤ kn9 ∧ kn9 ≤ 9223372036854775807) {bx9 : Nat} (hbx9 : M bx9 = some (.cells #[.int .i64 kk9, .int .i64 kn9] 24)) {x0 : Int} :
    Pu Try.prog (.func (.func 68) #[] #[.pointer (some ⟨bx8, 0, none⟩), .pointer (some ⟨bx9, 0, none⟩)]) M [.int .i64 x0] (fun r M' => r = .tuple #[.int .i64 (keyAt kk8 kn8 x0 0), .int .i64 (keyAt kk9 kn9 x0 0)]) := by
  refine Pu_enter Try.func68 rfl Try.ntmps68 rfl Try.call68 ?_
  intro a w M1 H hM1 S E
  replace hbx8 := hM1.2 _ _ hbx8
  replace hbx9 := hM1.2 _ _ hbx9
  refine WP_seq ?_
  refine WP_region ?_
  refine S_v E rfl (R_assign E rfl) rfl ?_
  clear E a; intro a E
  refine S_v E rfl (R_assign E rfl) rfl ?_
  clear E a; intro a E
  refine WL_nil ?_
  refine T_n ?_
  refine WP_seq ?_
  have hbx8k0 := hbx8
  have hbx9k0 := hbx9
  replace S := S.mono_heap (w' := World.drew _) rfl
  refine WP_drawn (C := fun x w => agree M1 w) (bf := (fun i => [])) [0, 1, 3, 4, 6, 7] [0, 1, 3, 4, 2, 5, 6, 7] Try.mixed (by kernel_rfl) (fun x hq => S.imm) ?_
  refine D_v E rfl rfl rfl (fun w hC => (R_loadGM E rfl (Try.isAgg24 _) (Try.sizeOf24 _) hC hbx8k0)) ?_
  clear E a; intro a E
  refine D_v E rfl rfl rfl (fun w hC => (R_move E rfl)) ?_
  clear E a; intro a E
  refine D_v E rfl rfl rfl (fun w hC => (R_loadGM E rfl (Try.isAgg24 _) (Try.sizeOf24 _) hC hbx9k0)) ?_
  clear E a; intro a E
  refine D_v E rfl rfl rfl (fun w hC => (R_move E rfl)) ?_
  clear E a; intro a E
  refine D_x rfl rfl rfl (X_pu E S rfl rfl rfl (Key_of_d (by omega)) (Hp.le.refl _) ?_)
  clear E a S; rintro a _ w M_1 hM_1 rfl S E
  replace hbx8 := hM_1.2 _ _ hbx8
  replace hbx9 := hM_1.2 _ _ hbx9
  refine ⟨fun x hq hb => (agree_le hM_1 S.imm), ?_⟩
  refine D_x rfl rfl rfl (X_pu E S rfl rfl rfl (Key_of_d (by omega)) (Hp.le.refl _) ?_)
  clear E a S; rintro a _ w M_2 hM_2 rfl S E
  replace hbx8 := hM_2.2 _ _ hbx8
  replace hbx9 := hM_2.2 _ _ hbx9
  refine ⟨fun x hq hb => (agree_le (hM_1.trans hM_2) S.imm), ?_⟩
  refine D_v E rfl rfl rfl (fun w hC => (R_assign E rfl)) ?_
  clear E a; intro a E
  refine D_v E rfl rfl rfl (fun w hC => (R_assign E rfl)) ?_
  clear E a; intro a E
  refine D_end (NoP_n ?_)
  refine T_n ?_
  refine WP_ret ?_
  exact F_ret2 E Try.results68 rfl rfl ⟨_, rfl, M_2, (hM_1.trans hM_2), (by first | rfl | (simp; done) | (simp_all; done)), S⟩

set_option maxRecDepth 100000 in
set_option maxHeartbeats 4000000 in
theorem impl_GroupByMap {M : Hp} {v0 : Value} {l0 : List Int} (h0 : RdI M v0 l0){kk1 kn1 : Int} (gk1 : -9223372036854775808 ≤ kn1 ∧ kn1 ≤ 9223372036854775807) {kk2 kn2 : Int} (gk2 : -9223372036854775808 ≤ kn2 ∧ kn2 ≤ 9223372036854775807) (hb : l0.length ≤ 1000000000000) :
    Pu Try.prog (.func (.func 22) #[] #[]) M [v0, .agg #[.int .i64 kk1, .int .i64 kn1], .agg #[.int .i64 kk2, .int .i64 kn2]] (fun r M' => RdS 2 RG2 M' r (grpS (fun x => (keyAt kk1 kn1 x 0, keyAt kk2 kn2 x 0)) l0)) := by
  refine Pu_enter Try.func22 rfl Try.ntmps22 rfl Try.call22 ?_
  intro a w M1 H hM1 S E
  replace h0 := h0.le hM1
  have b0 := h0.bound
  refine WP_seq ?_
  refine WP_region ?_
  refine S_x (X_box (cs := #[.int .i64 kk1, .int .i64 kn1]) E S rfl rfl rfl ?_)
  clear E a S; rintro a w b_1 E S
  obtain ⟨M_2, hM_2, hb_1, S⟩ := S.freezeB
  replace h0 := h0.le hM_2
  refine S_x (X_box (cs := #[.int .i64 kk2, .int .i64 kn2]) E S rfl rfl rfl ?_)
  clear E a S; rintro a w b_3 E S
  obtain ⟨M_4, hM_4, hb_3, S⟩ := S.freezeB
  replace h0 := h0.le hM_4
  replace hb_1 := hM_4.2 _ _ hb_1
  refine S_v E rfl (R_assign E rfl) rfl ?_
  clear E a; intro a E
  refine WL_nil ?_
  refine T_n ?_
  refine WP_seq ?_
  refine WP_region ?_
  refine S_v E rfl (R_move E rfl) rfl ?_
  clear E a; intro a E
  refine S_v E rfl (R_makeFunc E rfl rfl) rfl ?_
  clear E a; intro a E
  refine S_x (X_pu E S rfl rfl rfl (lo_GroupByMap h0 (f1 := (fun x => (keyAt kk1 kn1 x 0, keyAt kk2 kn2 x 0))) ⟨rfl, fun zx0 => impl_GroupByMap1 (x0 := zx0) (by omega) hb_1 (by omega) hb_3⟩ (by (first | omega | (simp; omega) | (simp; done) | (simp_all; omega) | grind))) (Hp.le.refl _) ?_)
  clear E a S; rintro a v_6 w M_5 hM_5 hv_6 S E
  replace h0 := h0.le hM_5
  replace hb_1 := hM_5.2 _ _ hb_1
  replace hb_3 := hM_5.2 _ _ hb_3
  refine S_x (X_pu E S rfl rfl rfl (impl_groups hv_6 (by first | omega | (exact Nat.le_trans (grpE_len _ _) (by first | omega | (simp; omega))) | (first | omega | (simp; omega) | (simp; done) | (simp_all; omega) | grind)) (by (exact fun e he => Nat.le_trans (grpE_elen e he) (by omega)))) (Hp.le.refl _) ?_)
  clear E a S; rintro a v_8 w M_7 hM_7 hv_8 S E
  replace h0 := h0.le hM_7
  replace hb_1 := hM_7.2 _ _ hb_1
  replace hb_3 := hM_7.2 _ _ hb_3
  replace hv_6 := hv_6.le hM_7
  refine S_v E rfl (R_assign E rfl) rfl ?_
  clear E a; intro a E
  refine WL_nil ?_
  refine T_n ?_
  refine WP_ret ?_
  exact F_ret1 E Try.results22 rfl ⟨_, rfl, M_7, (hM_2.trans (hM_4.trans (hM_5.trans hM_7))), (by rw [show (grpS (fun x => (keyAt kk1 kn1 x 0, keyAt kk2 kn2 x 0)) l0) = (srtK Prod.fst (grpE (fun x => (keyAt kk1 kn1 x 0, keyAt kk2 kn2 x 0)) l0)) from by rfl]; exact hv_8), S⟩

set_option maxRecDepth 100000 in
set_option maxHeartbeats 4000000 in
theorem impl_GroupByMapSeq1 {M : Hp} {kk8 kn8 : Int} (gk8 : -9223372036854775808 ≤ kn8 ∧ kn8 ≤ 9223372036854775807) {bx8 : Nat} (hbx8 : M bx8 = some (.cells #[.int .i64 kk8, .int .i64 kn8] 24)) {kk9 kn9 : Int} (gk9 : -9223372036854775808 ≤ kn9 ∧ kn9 ≤ 9223372036854775807) {bx9 : Nat} (hbx9 : M bx9 = some (.cells #[.int .i64 kk9, .int .i64 kn9] 24)) {x0 : Int} :
    Pu Try.prog (.func (.func 73) #[] #[.pointer (some ⟨bx8, 0, none⟩), .pointer (some ⟨bx9, 0, none⟩)]) M [.int .i64 x0] (fun r M' => r = .tuple #[.int .i64 (keyAt kk8 kn8 x0 0), .int .i64 (keyAt kk9 kn9 x0 0)]) := by
  refine Pu_enter Try.func73 rfl Try.ntmps73 rfl Try.call73 ?_
  intro a w M1 H hM1 S E
  replace hbx8 := hM1.2 _ _ hbx8
  replace hbx9 := hM1.2 _ _ hbx9
  refine WP_seq ?_
  refine WP_region ?_
  refine S_v E rfl (R_assign E rfl) rfl ?_
  clear E a; intro a E
  refine S_v E rfl (R_assign E rfl) rfl ?_
  clear E a; intro a E
  refine WL_nil ?_
  refine T_n ?_
  refine WP_seq ?_
  have hbx8k0 := hbx8
  have hbx9k0 := hbx9
  replace S := S.mono_heap (w' := World.drew _) rfl
  refine WP_drawn (C := fun x w => agree M1 w) (bf := (fun i => [])) [0, 1, 3, 4, 6, 7] [0, 1, 3, 4, 2, 5, 6, 7] Try.mixed (by kernel_rfl) (fun x hq => S.imm) ?_
  refine D_v E rfl rfl rfl (fun w hC => (R_loadGM E rfl (Try.isAgg24 _) (Try.sizeOf24 _) hC hbx8k0)) ?_
  clear E a; intro a E
  refine D_v E rfl rfl rfl (fun w hC => (R_move E rfl)) ?_
  clear E a; intro a E
  refine D_v E rfl rfl rfl (fun w hC => (R_loadGM E rfl (Try.isAgg24 _) (Try.sizeOf24 _) hC hbx9k0)) ?_
  clear E a; intro a E
  refine D_v E rfl rfl rfl (fun w hC => (R_move E rfl)) ?_
  clear E a; intro a E
  refine D_x rfl rfl rfl (X_pu E S rfl rfl rfl (Key_of_d (by omega)) (Hp.le.refl _) ?_)
  clear E a S; rintro a _ w M_1 hM_1 rfl S E
  replace hbx8 := hM_1.2 _ _ hbx8
  replace hbx9 := hM_1.2 _ _ hbx9
  refine ⟨fun x hq hb => (agree_le hM_1 S.imm), ?_⟩
  refine D_x rfl rfl rfl (X_pu E S rfl rfl rfl (Key_of_d (by omega)) (Hp.le.refl _) ?_)
  clear E a S; rintro a _ w M_2 hM_2 rfl S E
  replace hbx8 := hM_2.2 _ _ hbx8
  replace hbx9 := hM_2.2 _ _ hbx9
  refine ⟨fun x hq hb => (agree_le (hM_1.trans hM_2) S.imm), ?_⟩
  refine D_v E rfl rfl rfl (fun w hC => (R_assign E rfl)) ?_
  clear E a; intro a E
  refine D_v E rfl rfl rfl (fun w hC => (R_assign E rfl)) ?_
  clear E a; intro a E
  refine D_end (NoP_n ?_)
  refine T_n ?_
  refine WP_ret ?_
  exact F_ret2 E Try.results73 rfl rfl ⟨_, rfl, M_2, (hM_1.trans hM_2), (by first | rfl | (simp; done) | (simp_all; done)), S⟩

set_option maxRecDepth 100000 in
set_option maxHeartbeats 4000000 in
theorem impl_GroupByMapSeq {M : Hp} {v0 : Value} {l0 : List Int} (h0 : RdI M v0 l0){kk1 kn1 : Int} (gk1 : -9223372036854775808 ≤ kn1 ∧ kn1 ≤ 9223372036854775807) {kk2 kn2 : Int} (gk2 : -9223372036854775808 ≤ kn2 ∧ kn2 ≤ 9223372036854775807) (hb : l0.length ≤ 1000000000000) :
    Pu Try.prog (.func (.func 28) #[] #[]) M [v0, .agg #[.int .i64 kk1, .int .i64 kn1], .agg #[.int .i64 kk2, .int .i64 kn2]] (fun r M' => RdS 2 RG2 M' r (grpS (fun x => (keyAt kk1 kn1 x 0, keyAt kk2 kn2 x 0)) l0)) := by
  refine Pu_enter Try.func28 rfl Try.ntmps28 rfl Try.call28 ?_
  intro a w M1 H hM1 S E
  replace h0 := h0.le hM1
  have b0 := h0.bound
  refine WP_seq ?_
  refine WP_region ?_
  refine S_x (X_box (cs := #[.int .i64 kk1, .int .i64 kn1]) E S rfl rfl rfl ?_)
  clear E a S; rintro a w b_1 E S
  obtain ⟨M_2, hM_2, hb_1, S⟩ := S.freezeB
  replace h0 := h0.le hM_2
  refine S_x (X_box (cs := #[.int .i64 kk2, .int .i64 kn2]) E S rfl rfl rfl ?_)
  clear E a S; rintro a w b_3 E S
  obtain ⟨M_4, hM_4, hb_3, S⟩ := S.freezeB
  replace h0 := h0.le hM_4
  replace hb_1 := hM_4.2 _ _ hb_1
  refine S_v E rfl (R_assign E rfl) rfl ?_
  clear E a; intro a E
  refine WL_nil ?_
  refine T_n ?_
  refine WP_seq ?_
  refine WP_region ?_
  refine S_v E rfl (R_move E rfl) rfl ?_
  clear E a; intro a E
  refine S_x (X_pu E S rfl rfl rfl (slices_Values h0) (Hp.le.refl _) ?_)
  clear E a S; rintro a v_6 w M_5 hM_5 hv_6 S E
  replace h0 := h0.le hM_5
  replace hb_1 := hM_5.2 _ _ hb_1
  replace hb_3 := hM_5.2 _ _ hb_3
  refine S_v E rfl (R_makeFunc E rfl rfl) rfl ?_
  clear E a; intro a E
  refine S_x (X_pu E S rfl rfl rfl (it_GroupByMap hv_6 (f1 := (fun x => (keyAt kk1 kn1 x 0, keyAt kk2 kn2 x 0))) ⟨rfl, fun zx0 => impl_GroupByMapSeq1 (x0 := zx0) (by omega) hb_1 (by omega) hb_3⟩ (by (first | omega | (simp; omega) | (simp; done) | (simp_all; omega) | grind))) (Hp.le.refl _) ?_)
  clear E a S; rintro a v_8 w M_7 hM_7 hv_8 S E
  replace h0 := h0.le hM_7
  replace hb_1 := hM_7.2 _ _ hb_1
  replace hb_3 := hM_7.2 _ _ hb_3
  replace hv_6 := hv_6.le hM_7
  refine S_x (X_pu E S rfl rfl rfl (impl_groups hv_8 (by first | omega | (exact Nat.le_trans (grpE_len _ _) (by first | omega | (simp; omega))) | (first | omega | (simp; omega) | (simp; done) | (simp_all; omega) | grind)) (by (exact fun e he => Nat.le_trans (grpE_elen e he) (by omega)))) (Hp.le.refl _) ?_)
  clear E a S; rintro a v_10 w M_9 hM_9 hv_10 S E
  replace h0 := h0.le hM_9
  replace hb_1 := hM_9.2 _ _ hb_1
  replace hb_3 := hM_9.2 _ _ hb_3
  replace hv_6 := hv_6.le hM_9
  replace hv_8 := hv_8.le hM_9
  refine S_v E rfl (R_assign E rfl) rfl ?_
  clear E a; intro a E
  refine WL_nil ?_
  refine T_n ?_
  refine WP_ret ?_
  exact F_ret1 E Try.results28 rfl ⟨_, rfl, M_9, (hM_2.trans (hM_4.trans (hM_5.trans (hM_7.trans hM_9)))), (by rw [show (grpS (fun x => (keyAt kk1 kn1 x 0, keyAt kk2 kn2 x 0)) l0) = (srtK Prod.fst (grpE (fun x => (keyAt kk1 kn1 x 0, keyAt kk2 kn2 x 0)) l0)) from by rfl]; exact hv_10), S⟩

set_option maxRecDepth 100000 in
set_option maxHeartbeats 4000000 in
theorem lo_PartitionBy {M : Hp} {v0 : Value} {l0 : List Int} (h0 : RdI M v0 l0){v1 : Value} {f1 : Int → Int} (h1 : PF1I Try.prog v1 M f1) (hb : l0.length ≤ 1000000000000) :
    Pu Try.prog (.func (.func 76) #[] #[]) M [v0, v1] (fun r M' => RdII M' r (partL f1 l0)) := by
  refine Pu_enter Try.func76 rfl Try.ntmps76 rfl Try.call76 ?_
  intro a w M1 H hM1 S E
  replace h0 := h0.le hM1
  replace h1 := h1.le hM1
  have b0 := h0.bound
  refine WP_seq ?_
  refine WP_region ?_
  refine S_v E rfl (R_assign E rfl) rfl ?_
  clear E a; intro a E
  refine WL_nil ?_
  refine T_n ?_
  refine WP_seq ?_
  refine WP_region ?_
  refine S_x (X_build1 (vs := []) E S rfl T54 rfl rfl rfl (fun u hu => by simp at hu) ?_)
  clear E a S; rintro a w v_1 E S
  replace S : St w M1 (OwnLL 22 3 v_1 ([] : List (List Int)) :: _) := newLL S
  refine S_v E rfl (R_assign E rfl) rfl ?_
  clear E a; intro a E
  refine WL_nil ?_
  refine T_n ?_
  refine WP_seq ?_
  refine WP_region ?_
  refine S_x (X_makeMap E S rfl ?_)
  clear E a S; rintro a w b_2 E S
  replace S : St w M1 (OwnE (Value.int .i64) b_2 ([] : List (Int × Int)) :: _) := S
  refine S_v E rfl (R_assign E rfl) rfl ?_
  clear E a; intro a E
  refine WL_nil ?_
  refine T_n ?_
  refine WP_seq ?_
  refine WP_seq ?_
  refine WP_region ?_
  refine S_v E rfl (R_move E rfl) rfl ?_
  clear E a; intro a E
  refine S_v E rfl (R_lenV E rfl T22 h0.len) rfl ?_
  clear E a; intro a E
  refine S_v E rfl (R_move E rfl) rfl ?_
  clear E a; intro a E
  refine WL_nil ?_
  refine T_n ?_
  refine WP_block ?_
  replace S := S.front1
  replace S := S.front1
  replace S := S.reM (L' := (encE (Value.int .i64) (seenM f1 (l0.take 0)))) (congrArg (encE (Value.int .i64)) (show ([] : List (Int × Int)) = seenM f1 (l0.take 0) by first | rfl | (simp [partL, seenM, uqS]; done) | exact part_set (by assumption) (by assumption) (by assumption) | exact seen_old (by assumption) (by assumption) | exact part_new (by assumption) (by assumption) | exact seen_new (by assumption) (by assumption)))
  replace S := S.front1
  replace S := reLL S (show ([] : List (List Int)) = partL f1 (l0.take 0) by first | rfl | (simp [partL, seenM, uqS]; done) | exact part_set (by assumption) (by assumption) (by assumption) | exact seen_old (by assumption) (by assumption) | exact part_new (by assumption) (by assumption) | exact seen_new (by assumption) (by assumption))
  refine WP_loop (γ := Nat) (fun (k : Nat) a w => ∃ (M_3 : Hp) (u5 : Value), Hp.le M1 M_3 ∧ St w M_3 (OwnLL 22 3 u5 (partL f1 (l0.take k)) :: OwnE (Value.int .i64) b_2 (seenM f1 (l0.take k)) :: H) ∧ Env a 58 [] [(0, v0), (1, v1), (5, u5), (6, .map (some b_2)), (14, .int .i64 (((l0).length : Nat) : Int)), (15, .int .i64 ((k : Nat) : Int))] ∧ (k ≤ (l0).length)) (fun k => ((l0).length) - k) 0 ⟨M1, _, Hp.le.refl _, S, E.keep ⟨rfl, rfl, rfl, rfl, rfl, rfl, trivial⟩, by ((try clear S); (try clear E); first | assumption | omega | rfl | (simp; done) | (simp_all; done) | (simp [List.take_add_one, *]; done) | grind [List.take_add_one])⟩ ?_
  try clear E
  try clear S
  try clear a
  try clear w
  rintro k a w ⟨M_3, u5, hM_3, S, E, hL0_0⟩
  replace h0 := h0.le hM_3
  replace h1 := h1.le hM_3
  refine WP_seq ?_
  refine WP_region ?_
  refine S_v E rfl (R_lss E rfl rfl) rfl ?_
  clear E a; intro a E
  refine WL_nil ?_
  refine T_n ?_
  refine WP_seq ?_
  refine WP_cond E rfl (fun hc_4 => ?_) (fun hc_4 => ?_)
  · replace hc_4 := of_decide_eq_true hc_4
    refine WP_skip ?_
    refine T_n ?_
    refine WP_seq ?_
    refine WP_block ?_
    refine WP_seq ?_
    refine WP_region ?_
    refine S_v E rfl (R_move E rfl) rfl ?_
    clear E a; intro a E
    refine S_v E rfl (R_assign E rfl) rfl ?_
    clear E a; intro a E
    refine WL_nil ?_
    refine T_n ?_
    refine WP_seq ?_
    refine WP_region ?_
    refine S_v E rfl (R_move E rfl) rfl ?_
    clear E a; intro a E
    refine S_v E rfl (R_move E rfl) rfl ?_
    clear E a; intro a E
    refine S_v E rfl (R_move E rfl) rfl ?_
    clear E a; intro a E
    obtain ⟨x_5, hx_5⟩ : ∃ x, (l0)[k]? = some x := ⟨_, List.getElem?_eq_getElem (by first | omega | (simp; done) | (simp; omega) | (simp_all; omega))⟩
    obtain ⟨p_6, hp_6, qp_6⟩ := h0.at hx_5
    refine S_v E rfl (R_idx E rfl rfl T22 hp_6 rfl) rfl ?_
    clear E a; intro a E
    refine S_v E rfl (R_loadM E rfl Try.isAgg3 S.imm qp_6) rfl ?_
    clear E a; intro a E
    refine S_x (X_pu E S rfl rfl rfl (h1.2 x_5) (Hp.le.refl _) ?_)
    clear E a S; rintro a _ w M_7 hM_7 rfl S E
    replace h0 := h0.le hM_7
    replace h1 := h1.le hM_7
    refine S_v E rfl (R_assign E rfl) rfl ?_
    clear E a; intro a E
    refine WL_nil ?_
    refine T_n ?_
    refine WP_seq ?_
    refine WP_region ?_
    refine S_v E rfl (R_move E rfl) rfl ?_
    clear E a; intro a E
    refine S_v E rfl (R_move E rfl) rfl ?_
    clear E a; intro a E
    replace S := S.front1
    refine S_x (X_lookupE (vf := (Value.int .i64)) (zb := (0 : Int)) E S rfl MT72 rfl rfl ?_)
    clear E a S; rintro a w E S
    replace S : St w M_7 (OwnE (Value.int .i64) b_2 (seenM f1 (l0.take k)) :: _) := S
    refine S_v E rfl (R_move E rfl) rfl ?_
    clear E a; intro a E
    refine S_v E rfl (R_extract E rfl rfl) rfl ?_
    clear E a; intro a E
    refine S_v E rfl (R_extract E rfl rfl) rfl ?_
    clear E a; intro a E
    refine S_v E rfl (R_assign E rfl) rfl ?_
    clear E a; intro a E
    refine S_v E rfl (R_assign E rfl) rfl ?_
    clear E a; intro a E
    refine WL_nil ?_
    refine T_n ?_
    refine WP_seq ?_
    refine WP_region ?_
    refine S_v E rfl (R_move E rfl) rfl ?_
    clear E a; intro a E
    refine WL_nil ?_
    refine T_n ?_
    refine WP_cond E rfl (fun hc_8 => ?_) (fun hc_8 => ?_)
    · obtain ⟨jx, hj1, hj2, hj3⟩ := seen_at hc_8
      replace E := E.ival (t := 9) (c := ((jx : Nat) : Int)) rfl (by omega)
      replace S := S.front1
      have S0 := S; clear S
      obtain ⟨xs_9, rest_10, hv_11, l_12, hx_13, hl_14, back_15, S⟩ := lookLL jx (by omega) S0
      clear S0
      have qp_6k15 := qp_6
      have h0k15 := h0
      replace S := S.mono_heap (w' := World.drew _) rfl
      obtain ⟨p_16, hp_16⟩ := S.ptrC (k := jx) (by first | omega | (simp; done) | (simp; omega) | (simp_all; omega))
      obtain ⟨p_17, hp_17, qp_17⟩ := h0.at hx_5
      refine WP_drawn (C := fun x w => agree M_7 w ∧ (x = 5 → w.cell? p_16 = some hv_11)) (bf := (fun i => bif Nat.beq i 10 then [] else bif Nat.beq i 11 then [5] else bif Nat.beq i 13 then [5] else [])) [0, 1, 2, 3, 4, 5, 6, 7, 8, 9, 12] [0, 1, 2, 3, 4, 5, 6, 7, 8, 9, 10, 11, 12, 13] Try.mixed (by kernel_rfl) (fun x hq => ⟨S.imm, fun _ => S.cellC hp_16 hx_13⟩) ?_
      refine D_v E rfl rfl rfl (fun w hC => (R_move E rfl)) ?_
      clear E a; intro a E
      refine D_v E rfl rfl rfl (fun w hC => (R_move E rfl)) ?_
      clear E a; intro a E
      refine D_v E rfl rfl rfl (fun w hC => (R_move E rfl)) ?_
      clear E a; intro a E
      refine D_v E rfl rfl rfl (fun w hC => (R_move E rfl)) ?_
      clear E a; intro a E
      refine D_v E rfl rfl rfl (fun w hC => (R_idx E rfl rfl T54 hp_16 rfl)) ?_
      clear E a; intro a E
      refine D_v E rfl rfl rfl (fun w hC => (R_load E rfl (Try.isAgg22 _) (hC.2 rfl))) ?_
      clear E a; intro a E
      refine D_v E rfl rfl rfl (fun w hC => (R_move E rfl)) ?_
      clear E a; intro a E
      refine D_v E rfl rfl rfl (fun w hC => (R_move E rfl)) ?_
      clear E a; intro a E
      obtain ⟨p_18, hp_18, qp_18⟩ := h0.at hx_5
      refine D_v E rfl rfl rfl (fun w hC => (R_idx E rfl rfl T22 hp_18 rfl)) ?_
      clear E a; intro a E
      refine D_v E rfl rfl rfl (fun w hC => (R_loadM E rfl Try.isAgg3 hC.1 qp_18)) ?_
      clear E a; intro a E
      refine D_x rfl rfl rfl (X_buildI (ys := [x_5]) E S rfl T22 rfl rfl rfl ?_)
      clear E a S; rintro a w v_19 E S
      refine ⟨fun x hq hb => ⟨(agree_le (Hp.le.refl _) S.imm), (fun _ => S.front1.cellC hp_16 hx_13)⟩, ?_⟩
      replace S := S.front2
      replace S := S.front1
      refine D_x rfl rfl rfl (X_appendB (xs := l_12) (ys := [x_5]) E S rfl rfl rfl T22 (by (first | omega | (have h9 := part_el (List.mem_of_getElem? (by assumption)); simp only [List.length_take, List.length_cons, List.length_nil] at *; omega) | (have h9 := part_ll f1 (l0.take k); simp only [List.length_take] at *; omega) | (have h9 := part_el (List.mem_of_getElem? (by assumption)); simp only [List.length_cons, List.length_nil]; omega) | (have h9 := part_ll f1 pre; omega))) ?_)
      clear E a S; rintro a w v_20 E S
      refine ⟨fun x hq hb => ⟨(agree_le (Hp.le.refl _) S.imm), (fun e => by subst e; exact absurd hb (by decide))⟩, ?_⟩
      refine D_v E rfl rfl rfl (fun w hC => (R_idx E rfl rfl T54 hp_16 rfl)) ?_
      clear E a; intro a E
      replace S := S.front2
      replace S := S.front1
      have ho_21 := S.oneI
      replace S := S.front2
      refine D_x rfl rfl rfl (X_storeC E S rfl rfl (Try.sizeOf22 _) ho_21 hp_16 ?_)
      clear E a S; rintro a w E S
      replace S := back_15 _ _ _ _ _ S
      refine ⟨fun x hq hb => ⟨(agree_le (Hp.le.refl _) S.imm), (fun e => by subst e; exact absurd hb (by decide))⟩, ?_⟩
      refine D_end (NoP_n ?_)
      refine B_n ?_
      refine T_n ?_
      refine WP_region ?_
      refine S_v E rfl (R_addx (m := ((k + 1 : Nat) : Int)) E rfl rfl (by omega) (by omega)) rfl ?_
      clear E a; intro a E
      refine S_v E rfl (R_move E rfl) rfl ?_
      clear E a; intro a E
      refine WL_nil ?_
      refine T_n ?_
      replace S := S.front1
      replace S := S.reM (L' := (encE (Value.int .i64) (seenM f1 (l0.take (k + 1))))) (congrArg (encE (Value.int .i64)) (show seenM f1 (l0.take k) = seenM f1 (l0.take (k + 1)) by first | rfl | (simp [partL, seenM, uqS]; done) | exact part_set (by assumption) (by assumption) (by assumption) | exact seen_old (by assumption) (by assumption) | exact part_new (by assumption) (by assumption) | exact seen_new (by assumption) (by assumption)))
      replace S := S.front1
      replace S := reLL S (show (partL f1 (l0.take k)).set jx (l_12 ++ [x_5]) = partL f1 (l0.take (k + 1)) by first | rfl | (simp [partL, seenM, uqS]; done) | exact part_set (by assumption) (by assumption) (by assumption) | exact seen_old (by assumption) (by assumption) | exact part_new (by assumption) (by assumption) | exact seen_new (by assumption) (by assumption))
      exact ⟨k + 1, ⟨M_7, _, (hM_3.trans hM_7), S, E.keep ⟨rfl, rfl, rfl, rfl, rfl, rfl, trivial⟩, by ((try clear S); (try clear E); first | assumption | omega | rfl | (simp; done) | (simp_all; done) | (simp [List.take_add_one, *]; done) | grind [List.take_add_one])⟩, by omega⟩
    · refine WP_seq ?_
      refine WP_region ?_
      refine S_v E rfl (R_move E rfl) rfl ?_
      clear E a; intro a E
      refine S_v E rfl (R_move E rfl) rfl ?_
      clear E a; intro a E
      refine S_v E rfl (R_move E rfl) rfl ?_
      clear E a; intro a E
      replace S := S.front1
      refine S_v E rfl (R_lenV E rfl T54 (lenLL S)) rfl ?_
      clear E a; intro a E
      replace S := S.front1
      refine S_x0 (X_updateE (vf := (Value.int .i64)) (u := (((partL f1 (l0.take k)).length : Nat) : Int)) E S MT72 rfl rfl rfl ?_)
      clear E a S; rintro a w E S
      refine WL_nil ?_
      refine T_n ?_
      refine WP_region ?_
      refine S_v E rfl (R_move E rfl) rfl ?_
      clear E a; intro a E
      refine S_v E rfl (R_move E rfl) rfl ?_
      clear E a; intro a E
      refine S_v E rfl (R_move E rfl) rfl ?_
      clear E a; intro a E
      obtain ⟨p_22, hp_22, qp_22⟩ := h0.at hx_5
      refine S_v E rfl (R_idx E rfl rfl T22 hp_22 rfl) rfl ?_
      clear E a; intro a E
      refine S_v E rfl (R_loadM E rfl Try.isAgg3 S.imm qp_22) rfl ?_
      clear E a; intro a E
      refine S_x (X_buildI (ys := [x_5]) E S rfl T22 rfl rfl rfl ?_)
      clear E a S; rintro a w v_23 E S
      have ho_25 := S.oneI
      refine S_x (X_build1 (vs := [v_23]) E S rfl T54 rfl rfl rfl (by intro u hu; simp only [List.mem_cons, List.not_mem_nil, or_false] at hu; rw [hu]; exact ho_25) ?_)
      clear E a S; rintro a w v_24 E S
      replace S := S.front3
      replace S := S.front2
      replace S := S.front2
      refine S_x (X_appendLL E S rfl rfl rfl T54 (by (first | omega | (have h9 := part_el (List.mem_of_getElem? (by assumption)); simp only [List.length_take, List.length_cons, List.length_nil] at *; omega) | (have h9 := part_ll f1 (l0.take k); simp only [List.length_take] at *; omega) | (have h9 := part_el (List.mem_of_getElem? (by assumption)); simp only [List.length_cons, List.length_nil]; omega) | (have h9 := part_ll f1 pre; omega))) (by (first | omega | (have h9 := part_el (List.mem_of_getElem? (by assumption)); simp only [List.length_take, List.length_cons, List.length_nil] at *; omega) | (have h9 := part_ll f1 (l0.take k); simp only [List.length_take] at *; omega) | (have h9 := part_el (List.mem_of_getElem? (by assumption)); simp only [List.length_cons, List.length_nil]; omega) | (have h9 := part_ll f1 pre; omega))) ?_)
      clear E a S; rintro a w v_26 E S
      refine S_v E rfl (R_assign E rfl) rfl ?_
      clear E a; intro a E
      refine WL_nil ?_
      refine B_n ?_
      refine T_n ?_
      refine WP_region ?_
      refine S_v E rfl (R_addx (m := ((k + 1 : Nat) : Int)) E rfl rfl (by omega) (by omega)) rfl ?_
      clear E a; intro a E
      refine S_v E rfl (R_move E rfl) rfl ?_
      clear E a; intro a E
      refine WL_nil ?_
      refine T_n ?_
      replace S := S.front1
      replace S := S.reM (L' := (encE (Value.int .i64) (seenM f1 (l0.take (k + 1))))) (congrArg (encE (Value.int .i64)) (show putK (seenM f1 (l0.take k)) (f1 x_5) (((partL f1 (l0.take k)).length : Nat) : Int) = seenM f1 (l0.take (k + 1)) by first | rfl | (simp [partL, seenM, uqS]; done) | exact part_set (by assumption) (by assumption) (by assumption) | exact seen_old (by assumption) (by assumption) | exact part_new (by assumption) (by assumption) | exact seen_new (by assumption) (by assumption)))
      replace S := S.front1
      replace S := reLL S (show (partL f1 (l0.take k)) ++ [[x_5]] = partL f1 (l0.take (k + 1)) by first | rfl | (simp [partL, seenM, uqS]; done) | exact part_set (by assumption) (by assumption) (by assumption) | exact seen_old (by assumption) (by assumption) | exact part_new (by assumption) (by assumption) | exact seen_new (by assumption) (by assumption))
      exact ⟨k + 1, ⟨M_7, _, (hM_3.trans hM_7), S, E.keep ⟨rfl, rfl, rfl, rfl, rfl, rfl, trivial⟩, by ((try clear S); (try clear E); first | assumption | omega | rfl | (simp; done) | (simp_all; done) | (simp [List.take_add_one, *]; done) | grind [List.take_add_one])⟩, by omega⟩
  · replace hc_4 := of_decide_eq_false hc_4
    refine WP_exit ?_
    refine T_x ?_
    refine T_x ?_
    refine B_x ?_
    refine T_n ?_
    refine WP_seq ?_
    refine WP_region ?_
    refine S_v E rfl (R_move E rfl) rfl ?_
    clear E a; intro a E
    refine S_v E rfl (R_assign E rfl) rfl ?_
    clear E a; intro a E
    refine WL_nil ?_
    refine T_n ?_
    refine WP_ret ?_
    have S0 := S; clear S
    obtain ⟨M_27, hM_27, hz_28, S⟩ := frzLL S0 (by (exact fun e he => Nat.le_trans (part_el he) (by first | omega | (rw [List.length_take]; omega)))) (by (first | omega | exact Nat.le_trans (part_ll _ _) (by first | omega | (rw [List.length_take]; omega))))
    clear S0
    replace h0 := h0.le hM_27
    replace h1 := h1.le hM_27
    exact F_ret1 E Try.results76 rfl ⟨_, rfl, M_27, (hM_3.trans hM_27), (by rw [show (partL f1 l0) = (partL f1 (l0.take k)) from by (rw [List.take_of_length_le (by omega)])]; exact hz_28), S.drop⟩

set_option maxRecDepth 100000 in
set_option maxHeartbeats 4000000 in
theorem impl_PartitionBy {M : Hp} {v0 : Value} {l0 : List Int} (h0 : RdI M v0 l0){kk1 kn1 : Int} (gk1 : -9223372036854775808 ≤ kn1 ∧ kn1 ≤ 9223372036854775807) (hb : l0.length ≤ 1000000000000) :
    Pu Try.prog (.func (.func 35) #[] #[]) M [v0, .agg #[.int .i64 kk1, .int .i64 kn1]] (fun r M' => RdII M' r (partL (fun x => keyAt kk1 kn1 x 0) l0)) := by
  refine Pu_enter Try.func35 rfl Try.ntmps35 rfl Try.call35 ?_
  intro a w M1 H hM1 S E
  replace h0 := h0.le hM1
  have b0 := h0.bound
  refine WP_seq ?_
  refine WP_region ?_
  refine S_x (X_box (cs := #[.int .i64 kk1, .int .i64 kn1]) E S rfl rfl rfl ?_)
  clear E a S; rintro a w b_1 E S
  obtain ⟨M_2, hM_2, hb_1, S⟩ := S.freezeB
  replace h0 := h0.le hM_2
  refine S_v E rfl (R_assign E rfl) rfl ?_
  clear E a; intro a E
  refine WL_nil ?_
  refine T_n ?_
  refine WP_seq ?_
  refine WP_region ?_
  refine S_v E rfl (R_move E rfl) rfl ?_
  clear E a; intro a E
  refine S_v E rfl (R_loadGM E rfl (Try.isAgg24 _) (Try.sizeOf24 _) S.imm hb_1) rfl ?_
  clear E a; intro a E
  refine S_v E rfl (R_makeFunc E rfl rfl) rfl ?_
  clear E a; intro a E
  refine S_x (X_pu E S rfl rfl rfl (lo_PartitionBy h0 ⟨rfl, fun zx1 => Key_of (x1 := zx1) (by omega)⟩ (by (first | omega | (simp; omega) | (simp; done) | (simp_all; omega) | grind))) (Hp.le.refl _) ?_)
  clear E a S; rintro a v_4 w M_3 hM_3 hv_4 S E
  replace h0 := h0.le hM_3
  replace hb_1 := hM_3.2 _ _ hb_1
  refine S_v E rfl (R_assign E rfl) rfl ?_
  clear E a; intro a E
  refine WL_nil ?_
  refine T_n ?_
  refine WP_ret ?_
  exact F_ret1 E Try.results35 rfl ⟨_, rfl, M_3, (hM_2.trans hM_3), hv_4, S⟩

set_option maxRecDepth 100000 in
set_option maxHeartbeats 4000000 in
theorem it_PartitionBy {M : Hp} {v0 : Value} {l0 : List Int} (h0 : SeqV Try.prog v0 M (RInt) l0){v1 : Value} {f1 : Int → Int} (h1 : PF1I Try.prog v1 M f1) (hb : l0.length ≤ 1000000000000) :
    Pu Try.prog (.func (.func 77) #[] #[]) M [v0, v1] (fun r M' => RdII M' r (partL f1 l0)) := by
  refine Pu_enter Try.func77 rfl Try.ntmps77 rfl Try.call77 ?_
  intro a w M1 H hM1 S E
  replace h0 := h0.le hM1
  replace h1 := h1.le hM1
  replace S : St w M1 (mks [] :: _) := S.empty
  replace E : Env a 44 (([] : List Nat).map mk) _ := E
  refine WP_seq ?_
  refine WP_region ?_
  refine S_x (X_box (cs := #[v1]) E S rfl rfl (cells_one h1.1) ?_)
  clear E a S; rintro a w b_1 E S
  obtain ⟨M_2, hM_2, hb_1, S⟩ := S.freezeB
  replace h0 := h0.le hM_2
  replace h1 := h1.le hM_2
  refine S_v E rfl (R_assign E rfl) rfl ?_
  clear E a; intro a E
  refine WL_nil ?_
  refine T_n ?_
  refine WP_seq ?_
  refine WP_region ?_
  refine S_x (X_alloc (cs := #[.slice none 0 0]) E S rfl Try.zeroValue54 rfl ?_)
  clear E a S; rintro a w b_3 E S
  refine WL_nil ?_
  refine T_n ?_
  refine WP_seq ?_
  refine WP_region ?_
  refine S_x (X_makeMap E S rfl ?_)
  clear E a S; rintro a w b_4 E S
  replace S : St w M_2 (OwnE (Value.int .i64) b_4 ([] : List (Int × Int)) :: _) := S
  refine S_x (X_alloc (cs := #[.map none]) E S rfl Try.zeroValue72 rfl ?_)
  clear E a S; rintro a w b_5 E S
  refine S_x0 (X_store E S rfl rfl (Try.sizeOf72 _) rfl ?_)
  clear E a S; rintro a w E S
  refine WL_nil ?_
  refine T_n ?_
  refine WP_seq ?_
  refine WP_seq ?_
  refine WP_region ?_
  refine S_v E rfl (R_move E rfl) rfl ?_
  clear E a; intro a E
  refine WL_nil ?_
  refine T_n ?_
  refine WP_block ?_
  replace S := S.front2
  replace S : St w M_2 (OwnC 22 1 (.slice none 0 0) 0 [] :: _) := S.ownNil
  replace S := newLL (e := 3) S
  replace S := S.front2
  replace S := S.front3
  replace S := S.front2
  replace S := S.front3
  replace S := S.front3
  replace E := E.keep (l' := [(3, .pointer (some ⟨b_1, 0, none⟩)), (5, .pointer (some ⟨b_3, 0, none⟩)), (6, .pointer (some ⟨b_5, 0, none⟩)), (12, v0)]) ⟨rfl, rfl, rfl, rfl, trivial⟩
  replace S := S.front3
  replace S := S.reM (L' := (encE (Value.int .i64) (seenM f1 (([] : List Int))))) (congrArg (encE (Value.int .i64)) (show ([] : List (Int × Int)) = seenM f1 (([] : List Int)) by first | rfl | (simp [partL, seenM, uqS]; done) | exact part_set1 (by assumption) (by assumption) | exact seen_old1 (by assumption) | exact part_new1 (by assumption) | exact seen_new1 (by assumption)))
  replace S := S.front3
  replace S := reLL S (show ([] : List (List Int)) = partL f1 (([] : List Int)) by first | rfl | (simp [partL, seenM, uqS]; done) | exact part_set1 (by assumption) (by assumption) | exact seen_old1 (by assumption) | exact part_new1 (by assumption) | exact seen_new1 (by assumption))
  replace S := S.front3
  replace S := S.front3
  have S0 := S; clear S; have S := St.pack [blk b_5 (.cells #[.map (some b_4)] 72), blk b_3 (.cells #[(.slice none 0 0)] 54), OwnLL 22 3 (.slice none 0 0) (partL f1 (([] : List Int))), OwnE (Value.int .i64) b_4 (seenM f1 (([] : List Int)))] S0; clear S0
  refine WP_range (RV := RInt) (l := l0) (fun pre M c => ∃ (u5 : Value), c = bigs [blk b_5 (.cells #[.map (some b_4)] 72), blk b_3 (.cells #[u5] 54), OwnLL 22 3 u5 (partL f1 (pre)), OwnE (Value.int .i64) b_4 (seenM f1 (pre))]) (fun _ _ _ _ => False) E S rfl h0 (Hp.le.refl _) (fun _ _ _ h => by rw [h]; rfl) (by decide) (by rintro _ M M' c hM ⟨u5, rfl⟩; exact ⟨_, rfl⟩) ⟨_, rfl⟩ ?_ ?_ ?_
  clear E S
  · rintro lb_8 rec_9 pre x _ a w M_7 _ G hM_7 hp_10 rfl ⟨u5, rfl⟩ E S
    replace E : Env a 44 [] [(13, .int .i64 x), (3, .pointer (some ⟨b_1, 0, none⟩)), (5, .pointer (some ⟨b_3, 0, none⟩)), (6, .pointer (some ⟨b_5, 0, none⟩)), (12, v0)] := E
    replace S := S.swap.unpack4
    have hq0 := prefix_lt hp_10
    replace h0 := h0.le hM_7
    replace h1 := h1.le hM_7
    replace hb_1 := hM_7.2 _ _ hb_1
    have hpl := hp_10.length_le; simp at hpl
    refine WP_region ?_
    refine S_v E rfl (R_assign E rfl) rfl ?_
    clear E a; intro a E
    refine WL_nil ?_
    refine T_n ?_
    replace S := S.front4
    refine rb S ?_
    clear S; intro w S
    refine WP_block ?_
    refine WP_seq ?_
    refine WP_region ?_
    refine S_v E rfl (R_loadM E rfl Try.isAgg67 S.imm (cellM_box hb_1)) rfl ?_
    clear E a; intro a E
    refine S_v E rfl (R_move E rfl) rfl ?_
    clear E a; intro a E
    refine S_x (X_pu E S rfl rfl rfl (h1.2 x) (Hp.le.refl _) ?_)
    clear E a S; rintro a _ w M_12 hM_12 rfl S E
    replace h0 := h0.le hM_12
    replace h1 := h1.le hM_12
    replace hb_1 := hM_12.2 _ _ hb_1
    refine S_v E rfl (R_assign E rfl) rfl ?_
    clear E a; intro a E
    refine WL_nil ?_
    refine T_n ?_
    refine WP_seq ?_
    refine WP_region ?_
    refine S_v E rfl (R_load E rfl (Try.isAgg72 _) (cell_blk (S.mem (.tail _ (.head _))))) rfl ?_
    clear E a; intro a E
    refine S_v E rfl (R_move E rfl) rfl ?_
    clear E a; intro a E
    replace S := S.front4
    refine S_x (X_lookupE (vf := (Value.int .i64)) (zb := (0 : Int)) E S rfl MT72 rfl rfl ?_)
    clear E a S; rintro a w E S
    replace S : St w M_12 (OwnE (Value.int .i64) b_4 (seenM f1 (pre)) :: _) := S
    refine S_v E rfl (R_move E rfl) rfl ?_
    clear E a; intro a E
    refine S_v E rfl (R_extract E rfl rfl) rfl ?_
    clear E a; intro a E
    refine S_v E rfl (R_extract E rfl rfl) rfl ?_
    clear E a; intro a E
    refine S_v E rfl (R_assign E rfl) rfl ?_
    clear E a; intro a E
    refine S_v E rfl (R_assign E rfl) rfl ?_
    clear E a; intro a E
    refine WL_nil ?_
    refine T_n ?_
    refine WP_seq ?_
    refine WP_region ?_
    refine S_v E rfl (R_move E rfl) rfl ?_
    clear E a; intro a E
    refine WL_nil ?_
    refine T_n ?_
    refine WP_cond E rfl (fun hc_13 => ?_) (fun hc_13 => ?_)
    · obtain ⟨jx, hj1, hj2, hj3⟩ := seen_at hc_13
      replace E := E.ival (t := 9) (c := ((jx : Nat) : Int)) rfl (by omega)
      replace S := S.front4
      have S0 := S; clear S
      obtain ⟨xs_14, rest_15, hv_16, l_17, hx_18, hl_19, back_20, S⟩ := lookLL jx (by omega) S0
      clear S0
      have hb_1k20 := hb_1
      replace S := S.mono_heap (w' := World.drew _) rfl
      obtain ⟨p_21, hp_21⟩ := S.ptrC (k := jx) (by first | omega | (simp; done) | (simp; omega) | (simp_all; omega))
      refine WP_drawn (C := fun x w => agree M_12 w ∧ (x = 0 → w.heap[b_3]? = some (.cells #[u5] 54)) ∧ (x = 2 → w.heap[b_3]? = some (.cells #[u5] 54)) ∧ (x = 5 → w.cell? p_21 = some hv_16)) (bf := (fun i => bif Nat.beq i 7 then [] else bif Nat.beq i 8 then [2, 5] else bif Nat.beq i 10 then [0, 2, 5] else [])) [0, 1, 2, 3, 4, 5, 6, 9] [0, 1, 2, 3, 4, 5, 6, 7, 8, 9, 10] Try.mixed (by kernel_rfl) (fun x hq => ⟨S.imm, fun _ => (S.mem (.tail _ (.tail _ (.tail _ (.tail _ (.tail _ (.tail _ (.head _)))))))), fun _ => (S.mem (.tail _ (.tail _ (.tail _ (.tail _ (.tail _ (.tail _ (.head _)))))))), fun _ => S.cellC hp_21 hx_18⟩) ?_
      refine D_v E rfl rfl rfl (fun w hC => (R_load E rfl (Try.isAgg54 _) (cell_blk (hC.2.1 rfl)))) ?_
      clear E a; intro a E
      refine D_v E rfl rfl rfl (fun w hC => (R_move E rfl)) ?_
      clear E a; intro a E
      refine D_v E rfl rfl rfl (fun w hC => (R_load E rfl (Try.isAgg54 _) (cell_blk (hC.2.2.1 rfl)))) ?_
      clear E a; intro a E
      refine D_v E rfl rfl rfl (fun w hC => (R_move E rfl)) ?_
      clear E a; intro a E
      refine D_v E rfl rfl rfl (fun w hC => (R_idx E rfl rfl T54 hp_21 rfl)) ?_
      clear E a; intro a E
      refine D_v E rfl rfl rfl (fun w hC => (R_load E rfl (Try.isAgg22 _) (hC.2.2.2 rfl))) ?_
      clear E a; intro a E
      refine D_v E rfl rfl rfl (fun w hC => (R_move E rfl)) ?_
      clear E a; intro a E
      refine D_x rfl rfl rfl (X_buildI (ys := [x]) E S rfl T22 rfl rfl rfl ?_)
      clear E a S; rintro a w v_22 E S
      refine ⟨fun x hq hb => ⟨(agree_le (Hp.le.refl _) S.imm), (fun _ => (S.mem (.tail _ (.tail _ (.tail _ (.tail _ (.tail _ (.tail _ (.tail _ (.head _)))))))))), (fun _ => (S.mem (.tail _ (.tail _ (.tail _ (.tail _ (.tail _ (.tail _ (.tail _ (.head _)))))))))), (fun _ => S.front1.cellC hp_21 hx_18)⟩, ?_⟩
      replace S := S.front2
      replace S := S.front1
      refine D_x rfl rfl rfl (X_appendB (xs := l_17) (ys := [x]) E S rfl rfl rfl T22 (by (first | omega | (have h9 := part_el (List.mem_of_getElem? (by assumption)); simp only [List.length_take, List.length_cons, List.length_nil] at *; omega) | (have h9 := part_ll f1 (l0.take k); simp only [List.length_take] at *; omega) | (have h9 := part_el (List.mem_of_getElem? (by assumption)); simp only [List.length_cons, List.length_nil]; omega) | (have h9 := part_ll f1 pre; omega))) ?_)
      clear E a S; rintro a w v_23 E S
      refine ⟨fun x hq hb => ⟨(agree_le (Hp.le.refl _) S.imm), (fun _ => (S.mem (.tail _ (.tail _ (.tail _ (.tail _ (.tail _ (.tail _ (.head _))))))))), (fun e => by subst e; exact absurd hb (by decide)), (fun e => by subst e; exact absurd hb (by decide))⟩, ?_⟩
      refine D_v E rfl rfl rfl (fun w hC => (R_idx E rfl rfl T54 hp_21 rfl)) ?_
      clear E a; intro a E
      replace S := S.front2
      replace S := S.front1
      have ho_24 := S.oneI
      replace S := S.front2
      refine D_x rfl rfl rfl (X_storeC E S rfl rfl (Try.sizeOf22 _) ho_24 hp_21 ?_)
      clear E a S; rintro a w E S
      replace S := back_20 _ _ _ _ _ S
      refine ⟨fun x hq hb => ⟨(agree_le (Hp.le.refl _) S.imm), (fun e => by subst e; exact absurd hb (by decide)), (fun e => by subst e; exact absurd hb (by decide)), (fun e => by subst e; exact absurd hb (by decide))⟩, ?_⟩
      refine D_end (NoP_n ?_)
      refine B_n ?_
      replace S := S.front1
      replace S := S.front1
      replace S := S.front4
      replace S := S.front4
      replace S := S.front3
      replace S := S.reM (L' := (encE (Value.int .i64) (seenM f1 ((pre ++ [x]))))) (congrArg (encE (Value.int .i64)) (show seenM f1 (pre) = seenM f1 ((pre ++ [x])) by first | rfl | (simp [partL, seenM, uqS]; done) | exact part_set1 (by assumption) (by assumption) | exact seen_old1 (by assumption) | exact part_new1 (by assumption) | exact seen_new1 (by assumption)))
      replace S := S.front3
      replace S := reLL S (show (partL f1 (pre)).set jx (l_17 ++ [x]) = partL f1 ((pre ++ [x])) by first | rfl | (simp [partL, seenM, uqS]; done) | exact part_set1 (by assumption) (by assumption) | exact seen_old1 (by assumption) | exact part_new1 (by assumption) | exact seen_new1 (by assumption))
      replace S := S.front3
      replace S := S.front3
      have S0 := S; clear S; have S := (St.pack [blk b_5 (.cells #[.map (some b_4)] 72), blk b_3 (.cells #[u5] 54), OwnLL 22 3 u5 (partL f1 ((pre ++ [x]))), OwnE (Value.int .i64) b_4 (seenM f1 ((pre ++ [x])))] S0).swap; clear S0
      exact ⟨M_12, _, hM_12, ⟨_, rfl⟩, S⟩
    · refine WP_seq ?_
      refine WP_region ?_
      refine S_v E rfl (R_load E rfl (Try.isAgg72 _) (cell_blk (S.mem (.tail _ (.tail _ (.head _)))))) rfl ?_
      clear E a; intro a E
      refine S_v E rfl (R_move E rfl) rfl ?_
      clear E a; intro a E
      refine S_v E rfl (R_load E rfl (Try.isAgg54 _) (cell_blk (S.mem (.tail _ (.tail _ (.tail _ (.head _))))))) rfl ?_
      clear E a; intro a E
      replace S := S.front4
      refine S_v E rfl (R_lenV E rfl T54 (lenLL S)) rfl ?_
      clear E a; intro a E
      replace S := S.front1
      refine S_x0 (X_updateE (vf := (Value.int .i64)) (u := (((partL f1 (pre)).length : Nat) : Int)) E S MT72 rfl rfl rfl ?_)
      clear E a S; rintro a w E S
      refine WL_nil ?_
      refine T_n ?_
      refine WP_region ?_
      refine S_v E rfl (R_load E rfl (Try.isAgg54 _) (cell_blk (S.mem (.tail _ (.tail _ (.tail _ (.tail _ (.head _)))))))) rfl ?_
      clear E a; intro a E
      refine S_v E rfl (R_move E rfl) rfl ?_
      clear E a; intro a E
      refine S_x (X_buildI (ys := [x]) E S rfl T22 rfl rfl rfl ?_)
      clear E a S; rintro a w v_25 E S
      have ho_27 := S.oneI
      refine S_x (X_build1 (vs := [v_25]) E S rfl T54 rfl rfl rfl (by intro u hu; simp only [List.mem_cons, List.not_mem_nil, or_false] at hu; rw [hu]; exact ho_27) ?_)
      clear E a S; rintro a w v_26 E S
      replace S := S.front3
      replace S := S.front2
      replace S := S.front2
      refine S_x (X_appendLL E S rfl rfl rfl T54 (by (first | omega | (have h9 := part_el (List.mem_of_getElem? (by assumption)); simp only [List.length_take, List.length_cons, List.length_nil] at *; omega) | (have h9 := part_ll f1 (l0.take k); simp only [List.length_take] at *; omega) | (have h9 := part_el (List.mem_of_getElem? (by assumption)); simp only [List.length_cons, List.length_nil]; omega) | (have h9 := part_ll f1 pre; omega))) (by (first | omega | (have h9 := part_el (List.mem_of_getElem? (by assumption)); simp only [List.length_take, List.length_cons, List.length_nil] at *; omega) | (have h9 := part_ll f1 (l0.take k); simp only [List.length_take] at *; omega) | (have h9 := part_el (List.mem_of_getElem? (by assumption)); simp only [List.length_cons, List.length_nil]; omega) | (have h9 := part_ll f1 pre; omega))) ?_)
      clear E a S; rintro a w v_28 E S
      have ho_29 := oneLL S
      replace S := S.front4
      refine S_x0 (X_store E S rfl rfl (Try.sizeOf54 _) ho_29 ?_)
      clear E a S; rintro a w E S
      refine WL_nil ?_
      refine B_n ?_
      replace S := S.front2
      replace S := S.front2
      replace S := S.front2
      replace S := S.front4
      replace S := S.front3
      replace S := S.reM (L' := (encE (Value.int .i64) (seenM f1 ((pre ++ [x]))))) (congrArg (encE (Value.int .i64)) (show putK (seenM f1 (pre)) (f1 x) (((partL f1 (pre)).length : Nat) : Int) = seenM f1 ((pre ++ [x])) by first | rfl | (simp [partL, seenM, uqS]; done) | exact part_set1 (by assumption) (by assumption) | exact seen_old1 (by assumption) | exact part_new1 (by assumption) | exact seen_new1 (by assumption)))
      replace S := S.front3
      replace S := reLL S (show (partL f1 (pre)) ++ [[x]] = partL f1 ((pre ++ [x])) by first | rfl | (simp [partL, seenM, uqS]; done) | exact part_set1 (by assumption) (by assumption) | exact seen_old1 (by assumption) | exact part_new1 (by assumption) | exact seen_new1 (by assumption))
      replace S := S.front3
      replace S := S.front3
      have S0 := S; clear S; have S := (St.pack [blk b_5 (.cells #[.map (some b_4)] 72), blk b_3 (.cells #[v_28] 54), OwnLL 22 3 v_28 (partL f1 ((pre ++ [x]))), OwnE (Value.int .i64) b_4 (seenM f1 ((pre ++ [x])))] S0).swap; clear S0
      exact ⟨M_12, _, hM_12, ⟨_, rfl⟩, S⟩
  · rintro a w M_30 _ D_31 hM_30 ⟨u5, rfl⟩ S E
    replace S := S.unpack4
    replace h0 := h0.le hM_30
    replace h1 := h1.le hM_30
    replace hb_1 := hM_30.2 _ _ hb_1
    refine B_n ?_
    refine T_n ?_
    refine WP_seq ?_
    refine WP_region ?_
    refine S_v E rfl (R_load E rfl (Try.isAgg54 _) (cell_blk (S.mem (.tail _ (.head _))))) rfl ?_
    clear E a; intro a E
    refine S_v E rfl (R_assign E rfl) rfl ?_
    clear E a; intro a E
    refine WL_nil ?_
    refine T_n ?_
    refine WP_ret ?_
    replace S := S.front2
    have S0 := S; clear S
    obtain ⟨M_32, hM_32, hz_33, S⟩ := frzLL S0 (by (exact fun e he => Nat.le_trans (part_el he) (by first | omega | (rw [List.length_take]; omega)))) (by (first | omega | exact Nat.le_trans (part_ll _ _) (by first | omega | (rw [List.length_take]; omega))))
    clear S0
    replace h0 := h0.le hM_32
    replace h1 := h1.le hM_32
    replace hb_1 := hM_32.2 _ _ hb_1
    replace S := S.drop
    replace S := S.drop
    replace S := S.drop
    exact F_retM1 E S Try.results77 rfl (fun w S => ⟨_, rfl, M_32, (hM_2.trans (hM_30.trans hM_32)), (by rw [show (partL f1 l0) = (partL f1 (l0)) from by ((try clear S); (try clear E); first | rfl | (simp; done) | (simp_all; done) | grind [List.take_add_one])]; exact hz_33), S⟩)
  · rintro _ _ _ _ _ _ _ _ _ hX; exact hX.elim

set_option maxRecDepth 100000 in
set_option maxHeartbeats 4000000 in
theorem impl_PartitionBySeq {M : Hp} {v0 : Value} {l0 : List Int} (h0 : RdI M v0 l0){kk1 kn1 : Int} (gk1 : -9223372036854775808 ≤ kn1 ∧ kn1 ≤ 9223372036854775807) (hb : l0.length ≤ 1000000000000) :
    Pu Try.prog (.func (.func 36) #[] #[]) M [v0, .agg #[.int .i64 kk1, .int .i64 kn1]] (fun r M' => RdII M' r (partL (fun x => keyAt kk1 kn1 x 0) l0)) := by
  refine Pu_enter Try.func36 rfl Try.ntmps36 rfl Try.call36 ?_
  intro a w M1 H hM1 S E
  replace h0 := h0.le hM1
  have b0 := h0.bound
  refine WP_seq ?_
  refine WP_region ?_
  refine S_x (X_box (cs := #[.int .i64 kk1, .int .i64 kn1]) E S rfl rfl rfl ?_)
  clear E a S; rintro a w b_1 E S
  obtain ⟨M_2, hM_2, hb_1, S⟩ := S.freezeB
  replace h0 := h0.le hM_2
  refine S_v E rfl (R_assign E rfl) rfl ?_
  clear E a; intro a E
  refine WL_nil ?_
  refine T_n ?_
  refine WP_seq ?_
  have hb_1k2 := hb_1
  replace S := S.mono_heap (w' := World.drew _) rfl
  refine WP_drawn (C := fun x w => agree M_2 w) (bf := (fun i => [])) [0, 2, 3, 5] [0, 2, 3, 1, 4, 5] Try.mixed (by kernel_rfl) (fun x hq => S.imm) ?_
  refine D_v E rfl rfl rfl (fun w hC => (R_move E rfl)) ?_
  clear E a; intro a E
  refine D_v E rfl rfl rfl (fun w hC => (R_loadGM E rfl (Try.isAgg24 _) (Try.sizeOf24 _) hC hb_1k2)) ?_
  clear E a; intro a E
  refine D_v E rfl rfl rfl (fun w hC => (R_makeFunc E rfl rfl)) ?_
  clear E a; intro a E
  refine D_x rfl rfl rfl (X_pu E S rfl rfl rfl (slices_Values h0) (Hp.le.refl _) ?_)
  clear E a S; rintro a v_4 w M_3 hM_3 hv_4 S E
  replace h0 := h0.le hM_3
  replace hb_1 := hM_3.2 _ _ hb_1
  refine ⟨fun x hq hb => (agree_le hM_3 S.imm), ?_⟩
  refine D_x rfl rfl rfl (X_pu E S rfl rfl rfl (it_PartitionBy hv_4 ⟨rfl, fun zx1 => Key_of (x1 := zx1) (by omega)⟩ (by (first | omega | (simp; omega) | (simp; done) | (simp_all; omega) | grind))) (Hp.le.refl _) ?_)
  clear E a S; rintro a v_6 w M_5 hM_5 hv_6 S E
  replace h0 := h0.le hM_5
  replace hb_1 := hM_5.2 _ _ hb_1
  replace hv_4 := hv_4.le hM_5
  refine ⟨fun x hq hb => (agree_le (hM_3.trans hM_5) S.imm), ?_⟩
  refine D_v E rfl rfl rfl (fun w hC => (R_assign E rfl)) ?_
  clear E a; intro a E
  refine D_end (NoP_n ?_)
  refine T_n ?_
  refine WP_ret ?_
  exact F_ret1 E Try.results36 rfl ⟨_, rfl, M_5, (hM_2.trans (hM_3.trans hM_5)), hv_6, S⟩

set_option maxRecDepth 100000 in
set_option maxHeartbeats 4000000 in
theorem laws_FnGroups {M : Hp} {v0 : Value} {l0 : List Int} (h0 : RdI M v0 l0){kk1 kn1 : Int} (gk1 : -9223372036854775808 ≤ kn1 ∧ kn1 ≤ 9223372036854775807) (hr0 : (∀ x ∈ l0, -9223372036854775808 ≤ x ∧ x ≤ 9223372036854775807)) :
    PuC Try.prog 5 M [v0, .agg #[.int .i64 kk1, .int .i64 kn1]] (fun r M' => r = .bool true) := by
  refine PuC_enter Try.func5 rfl Try.ntmps5 rfl ?_
  intro a w M1 H hM1 S E
  replace h0 := h0.le hM1
  have b0 := h0.bound
  refine WP_seq ?_
  refine WP_region ?_
  refine S_x (X_box (cs := #[v0]) E S rfl rfl (cells_one (RdS.one' h0)) ?_)
  clear E a S; rintro a w b_1 E S
  obtain ⟨M_2, hM_2, hb_1, S⟩ := S.freezeB
  replace h0 := h0.le hM_2
  refine S_x (X_box (cs := #[.int .i64 kk1, .int .i64 kn1]) E S rfl rfl rfl ?_)
  clear E a S; rintro a w b_3 E S
  obtain ⟨M_4, hM_4, hb_3, S⟩ := S.freezeB
  replace h0 := h0.le hM_4
  replace hb_1 := hM_4.2 _ _ hb_1
  refine S_v E rfl (R_assign E rfl) rfl ?_
  clear E a; intro a E
  refine WL_nil ?_
  refine T_n ?_
  refine WP_seq ?_
  refine WP_seq ?_
  refine WP_region ?_
  refine S_v E rfl (R_loadM E rfl Try.isAgg22 S.imm (cellM_box hb_1)) rfl ?_
  clear E a; intro a E
  refine S_v E rfl (R_lenV E rfl T22 h0.len) rfl ?_
  clear E a; intro a E
  refine S_v E rfl (R_gtr E rfl rfl) rfl ?_
  clear E a; intro a E
  refine WL_nil ?_
  refine T_n ?_
  refine WP_cond E rfl (fun hc_5 => ?_) (fun hc_5 => ?_)
  · replace hc_5 := of_decide_eq_true hc_5
    refine WP_seq ?_
    refine WP_region ?_
    refine S_v E rfl (R_assign E rfl) rfl ?_
    clear E a; intro a E
    refine WL_nil ?_
    refine T_n ?_
    refine WP_ret ?_
    refine T_r ?_
    exact F_ret1 E Try.results5 rfl ⟨_, rfl, M_4, (hM_2.trans hM_4), rfl, S⟩
  · replace hc_5 := of_decide_eq_false hc_5
    refine WP_skip ?_
    refine T_n ?_
    refine WP_seq ?_
    refine WP_seq ?_
    refine WP_region ?_
    refine S_x (X_buildI (ys := [1]) E S rfl T22 rfl rfl rfl ?_)
    clear E a S; rintro a w v_6 E S
    refine S_v E rfl (R_build (u := .agg #[.int .i64 0, .int .i64 0]) (vs := []) E rfl (fun w => FB24__  w)) rfl ?_
    clear E a; intro a E
    have S0 := S; clear S
    obtain ⟨M_7, hM_7, hz_8, S⟩ := S0.freezeI (by (first | omega | (simp; done) | (simp; omega) | (simp only [List.length_map, List.length_take, etk] at *; omega) | (simp only [List.length_map, List.length_take] at *; omega)))
    clear S0
    replace h0 := h0.le hM_7
    replace hb_1 := hM_7.2 _ _ hb_1
    replace hb_3 := hM_7.2 _ _ hb_3
    refine S_x (X_pu E S rfl rfl rfl (impl_GroupBy hz_8 (by omega) (by (first | omega | (simp; omega) | (simp; done) | (simp_all; omega) | grind))) (Hp.le.refl _) ?_)
    clear E a S; rintro a v_10 w M_9 hM_9 hv_10 S E
    replace h0 := h0.le hM_9
    replace hb_1 := hM_9.2 _ _ hb_1
    replace hb_3 := hM_9.2 _ _ hb_3
    replace hz_8 := hz_8.le hM_9
    refine S_v E rfl (R_lenV E rfl T25 hv_10.len) rfl ?_
    clear E a; intro a E
    refine S_v E rfl (R_neq E rfl rfl) rfl ?_
    clear E a; intro a E
    refine WL_nil ?_
    refine T_n ?_
    have hc_11 : (decide ((((grpS (fun x => (keyAt 0 0 x 0, x)) [1]).length : Nat) : Int) ≠ 1)) = false := by (clear S E; first | (rw [grpS_one]; decide) | (simp; done) | decide | (first | refine dec_t ?_ | refine dec_f ?_ | skip); first | (rw [eall]; done) | (rw [eall]; rfl) | (rw [eprt]; rfl) | (rw [eprt]; done) | (rw [eall]; exact (grpS_self hr0).symm) | (rw [eall]; exact grpS_self hr0))
    refine WP_condF E rfl hc_11 ?_
    refine WP_skip ?_
    refine T_n ?_
    refine WP_seq ?_
    refine WP_seq ?_
    refine WP_region ?_
    refine S_v E rfl (R_loadM E rfl Try.isAgg22 S.imm (cellM_box hb_1)) rfl ?_
    clear E a; intro a E
    refine S_x (X_buildM (R := RSl 1 RInt) (vs := [v0]) (xs := [l0]) (RSl_mono RInt_mono) E S rfl T54 rfl rfl rfl (by intro u hu; simp only [List.mem_cons, List.not_mem_nil, or_false] at hu; rcases hu with rfl <;> first | exact RdI.one h0 | rfl) rfl (rowsC (R := RSl 1 RInt) (RdI.row h0) rowsN) ?_)
    clear E a S; rintro a v_12 w M_13 hM_13 hv_12 S E
    replace hv_12 : RdII M_13 v_12 [l0] := hv_12
    replace h0 := h0.le hM_13
    replace hb_1 := hM_13.2 _ _ hb_1
    replace hb_3 := hM_13.2 _ _ hb_3
    replace hz_8 := hz_8.le hM_13
    replace hv_10 := hv_10.le RG2_mono hM_13
    refine S_x (X_pu E S rfl rfl rfl (laws_few hv_12) (Hp.le.refl _) ?_)
    clear E a S; rintro a _ w M_14 hM_14 rfl S E
    replace h0 := h0.le hM_14
    replace hb_1 := hM_14.2 _ _ hb_1
    replace hb_3 := hM_14.2 _ _ hb_3
    replace hz_8 := hz_8.le hM_14
    replace hv_10 := hv_10.le RG2_mono hM_14
    replace hv_12 := hv_12.le hM_14
    refine S_v E rfl (R_not E rfl) rfl ?_
    clear E a; intro a E
    refine S_v E rfl (R_move E rfl) rfl ?_
    clear E a; intro a E
    refine split_bool (!(decide (∀ x ∈ [l0], x.length ≤ 300))) (fun hc_15 => ?_) (fun hc_15 => ?_)
    · replace E := E.val (t := 27) rfl hc_15
      replace E := E.val (t := 28) rfl hc_15
      refine WL_guard_no E rfl rfl rfl rfl fun a E => ?_
      refine WL_guard_no E rfl rfl rfl rfl fun a E => ?_
      refine WL_guard_no E rfl rfl rfl rfl fun a E => ?_
      refine S_v E rfl (R_pickT E rfl rfl) rfl ?_
      clear E a; intro a E
      refine WL_nil ?_
      refine T_n ?_
      refine WP_condT E rfl rfl ?_
      refine WP_seq ?_
      refine WP_region ?_
      refine S_v E rfl (R_assign E rfl) rfl ?_
      clear E a; intro a E
      refine WL_nil ?_
      refine T_n ?_
      refine WP_ret ?_
      refine T_r ?_
      exact F_ret1 E Try.results5 rfl ⟨_, rfl, M_14, (hM_2.trans (hM_4.trans (hM_7.trans (hM_9.trans (hM_13.trans hM_14))))), rfl, S⟩
    · replace E := E.val (t := 27) rfl hc_15
      replace E := E.val (t := 28) rfl hc_15
      refine WL_guard_yes E rfl rfl ?_
      refine S_v E rfl (R_loadGM E rfl (Try.isAgg24 _) (Try.sizeOf24 _) S.imm hb_3) rfl ?_
      clear E a; intro a E
      refine WL_guard_yes E rfl rfl ?_
      refine S_x (X_pu E S rfl rfl rfl (laws_just (by omega)) (Hp.le.refl _) ?_)
      clear E a S; rintro a _ w M_16 hM_16 rfl S E
      replace h0 := h0.le hM_16
      replace hb_1 := hM_16.2 _ _ hb_1
      replace hb_3 := hM_16.2 _ _ hb_3
      replace hz_8 := hz_8.le hM_16
      replace hv_10 := hv_10.le RG2_mono hM_16
      replace hv_12 := hv_12.le hM_16
      refine WL_guard_yes E rfl rfl ?_
      refine S_v E rfl (R_not E rfl) rfl ?_
      clear E a; intro a E
      refine S_v E rfl (R_pickF E rfl rfl) rfl ?_
      clear E a; intro a E
      refine WL_nil ?_
      refine T_n ?_
      refine WP_cond E rfl (fun hc_17 => ?_) (fun hc_17 => ?_)
      · refine WP_seq ?_
        refine WP_region ?_
        refine S_v E rfl (R_assign E rfl) rfl ?_
        clear E a; intro a E
        refine WL_nil ?_
        refine T_n ?_
        refine WP_ret ?_
        refine T_r ?_
        exact F_ret1 E Try.results5 rfl ⟨_, rfl, M_16, (hM_2.trans (hM_4.trans (hM_7.trans (hM_9.trans (hM_13.trans (hM_14.trans hM_16)))))), rfl, S⟩
      · have hln : l0.length ≤ 300 := (by simp_all)
        have hkj : -1099511627776 < kn1 ∧ kn1 < 1099511627776 := (by simp_all)
        refine WP_skip ?_
        refine T_n ?_
        refine WP_seq ?_
        refine WP_region ?_
        refine S_v E rfl (R_assign E rfl) rfl ?_
        clear E a; intro a E
        refine WL_nil ?_
        refine T_n ?_
        refine WP_seq ?_
        refine WP_seq ?_
        refine WP_region ?_
        refine S_v E rfl (R_loadM E rfl Try.isAgg22 S.imm (cellM_box hb_1)) rfl ?_
        clear E a; intro a E
        refine S_v E rfl (R_lenV E rfl T22 h0.len) rfl ?_
        clear E a; intro a E
        refine S_v E rfl (R_move E rfl) rfl ?_
        clear E a; intro a E
        refine WL_nil ?_
        refine T_n ?_
        refine WP_block ?_
        replace S := (S.ownNil (e := 3) (sz := 1)).made0
        replace S := S.re1 (l' := (uqS (fun x => keyAt kk1 kn1 x 0) (l0.take 0)).1) (by first | (simp [uqS]; done) | (rw [uq1_in (f := (fun x => keyAt kk1 kn1 x 0)) (by assumption) (by first | assumption | (simp_all; done))]; done) | (rw [uq1_out (f := (fun x => keyAt kk1 kn1 x 0)) (by assumption) (by first | assumption | (simp_all; done))]; done))
        refine WP_loop (γ := Nat) (fun (k : Nat) a w => ∃ (M_19 : Hp) (u5 : Value), Hp.le M_16 M_19 ∧ St w M_19 (OwnI 3 u5 ((uqS (fun x => keyAt kk1 kn1 x 0) (l0.take k)).1) :: H) ∧ Env a 137 [] [(2, .pointer (some ⟨b_1, 0, none⟩)), (3, .pointer (some ⟨b_3, 0, none⟩)), (5, u5), (33, v0), (34, .int .i64 (((l0).length : Nat) : Int)), (35, .int .i64 ((k : Nat) : Int))] ∧ (k ≤ (l0).length)) (fun k => ((l0).length) - k) 0 ⟨M_16, _, Hp.le.refl _, S, E.keep ⟨rfl, rfl, rfl, rfl, rfl, rfl, trivial⟩, by ((try clear S); (try clear E); first | assumption | omega | rfl | (simp; done) | (simp_all; done) | (simp [List.take_add_one, *]; done) | grind [List.take_add_one])⟩ ?_
        try clear E
        try clear S
        try clear a
        try clear w
        rintro k a w ⟨M_19, u5, hM_19, S, E, hL0_0⟩
        replace h0 := h0.le hM_19
        replace hb_1 := hM_19.2 _ _ hb_1
        replace hb_3 := hM_19.2 _ _ hb_3
        replace hz_8 := hz_8.le hM_19
        replace hv_10 := hv_10.le RG2_mono hM_19
        replace hv_12 := hv_12.le hM_19
        have hul := (uqS_len (fun x => keyAt kk1 kn1 x 0) (l0.take k)).2; rw [List.length_take] at hul
        refine WP_seq ?_
        refine WP_region ?_
        refine S_v E rfl (R_lss E rfl rfl) rfl ?_
        clear E a; intro a E
        refine WL_nil ?_
        refine T_n ?_
        refine WP_seq ?_
        refine WP_cond E rfl (fun hc_20 => ?_) (fun hc_20 => ?_)
        · replace hc_20 := of_decide_eq_true hc_20
          refine WP_skip ?_
          refine T_n ?_
          refine WP_seq ?_
          refine WP_block ?_
          refine WP_seq ?_
          refine WP_region ?_
          obtain ⟨x_21, hx_21⟩ : ∃ x, (l0)[k]? = some x := ⟨_, List.getElem?_eq_getElem (by first | omega | (simp; done) | (simp; omega) | (simp_all; omega))⟩
          obtain ⟨p_22, hp_22, qp_22⟩ := h0.at hx_21
          refine S_v E rfl (R_idx E rfl rfl T22 hp_22 rfl) rfl ?_
          clear E a; intro a E
          refine S_v E rfl (R_loadM E rfl Try.isAgg3 S.imm qp_22) rfl ?_
          clear E a; intro a E
          refine S_v E rfl (R_assign E rfl) rfl ?_
          clear E a; intro a E
          refine WL_nil ?_
          refine T_n ?_
          refine WP_seq ?_
          refine WP_region ?_
          refine S_v E rfl (R_loadGM E rfl (Try.isAgg24 _) (Try.sizeOf24 _) S.imm hb_3) rfl ?_
          clear E a; intro a E
          refine S_v E rfl (R_move E rfl) rfl ?_
          clear E a; intro a E
          refine S_x (X_pu E S rfl rfl rfl (laws_stands (by omega)) (Hp.le.refl _) ?_)
          clear E a S; rintro a _ w M_23 hM_23 rfl S E
          replace h0 := h0.le hM_23
          replace hb_1 := hM_23.2 _ _ hb_1
          replace hb_3 := hM_23.2 _ _ hb_3
          replace hz_8 := hz_8.le hM_23
          replace hv_10 := hv_10.le RG2_mono hM_23
          replace hv_12 := hv_12.le hM_23
          refine S_v E rfl (R_assign E rfl) rfl ?_
          clear E a; intro a E
          refine WL_nil ?_
          refine T_n ?_
          refine WP_seq ?_
          refine WP_region ?_
          refine S_v E rfl (R_move E rfl) rfl ?_
          clear E a; intro a E
          refine S_v E rfl (R_move E rfl) rfl ?_
          clear E a; intro a E
          obtain ⟨ML_24, hl_25, hv_26, S1, back⟩ := S.lendI (by (have hul := (uqS_len (fun x => keyAt kk1 kn1 x 0) (l0.take k)).2; rw [List.length_take] at hul; omega))
          refine S_x (X_pu E S1 rfl rfl rfl (laws_in hv_26) (Hp.le.refl _) ?_)
          clear E a S; rintro a _ w M_27 hM_28 rfl S E
          replace S := back _ _ hM_28 S
          clear back S1
          refine S_v E rfl (R_not E rfl) rfl ?_
          clear E a; intro a E
          refine WL_nil ?_
          refine T_n ?_
          refine WP_cond E rfl (fun hc_29 => ?_) (fun hc_29 => ?_)
          · refine WP_region ?_
            refine S_v E rfl (R_move E rfl) rfl ?_
            clear E a; intro a E
            refine S_v E rfl (R_move E rfl) rfl ?_
            clear E a; intro a E
            refine S_x (X_buildI (ys := [keyAt kk1 kn1 x_21 0]) E S rfl T22 rfl rfl rfl ?_)
            clear E a S; rintro a w v_30 E S
            replace S := S.front1
            replace S := S.front1
            refine S_x (X_appendB (xs := (uqS (fun x => keyAt kk1 kn1 x 0) (l0.take k)).1) (ys := [keyAt kk1 kn1 x_21 0]) E S rfl rfl rfl T22 (by (first | omega | (simp; done) | (simp; omega) | (simp only [List.length_cons, List.length_nil, List.length_map, List.length_take, etk] at *; omega) | (simp only [List.length_cons, List.length_nil, List.length_map, List.length_take] at *; omega))) ?_)
            clear E a S; rintro a w v_31 E S
            refine S_v E rfl (R_assign E rfl) rfl ?_
            clear E a; intro a E
            refine WL_nil ?_
            refine B_n ?_
            refine T_n ?_
            refine WP_region ?_
            refine S_v E rfl (R_addx (m := ((k + 1 : Nat) : Int)) E rfl rfl (by omega) (by omega)) rfl ?_
            clear E a; intro a E
            refine S_v E rfl (R_move E rfl) rfl ?_
            clear E a; intro a E
            refine WL_nil ?_
            refine T_n ?_
            replace S := S.re1 (l' := (uqS (fun x => keyAt kk1 kn1 x 0) (l0.take (k + 1))).1) (by first | (simp [uqS]; done) | (rw [uq1_in (f := (fun x => keyAt kk1 kn1 x 0)) (by assumption) (by first | assumption | (simp_all; done))]; done) | (rw [uq1_out (f := (fun x => keyAt kk1 kn1 x 0)) (by assumption) (by first | assumption | (simp_all; done))]; done))
            exact ⟨k + 1, ⟨M_23, _, (hM_19.trans hM_23), S, E.keep ⟨rfl, rfl, rfl, rfl, rfl, rfl, trivial⟩, by ((try clear S); (try clear E); first | assumption | omega | rfl | (simp; done) | (simp_all; done) | (simp [List.take_add_one, *]; done) | grind [List.take_add_one])⟩, by omega⟩
          · refine WP_skip ?_
            refine B_n ?_
            refine T_n ?_
            refine WP_region ?_
            refine S_v E rfl (R_addx (m := ((k + 1 : Nat) : Int)) E rfl rfl (by omega) (by omega)) rfl ?_
            clear E a; intro a E
            refine S_v E rfl (R_move E rfl) rfl ?_
            clear E a; intro a E
            refine WL_nil ?_
            refine T_n ?_
            replace S := S.re1 (l' := (uqS (fun x => keyAt kk1 kn1 x 0) (l0.take (k + 1))).1) (by first | (simp [uqS]; done) | (rw [uq1_in (f := (fun x => keyAt kk1 kn1 x 0)) (by assumption) (by first | assumption | (simp_all; done))]; done) | (rw [uq1_out (f := (fun x => keyAt kk1 kn1 x 0)) (by assumption) (by first | assumption | (simp_all; done))]; done))
            exact ⟨k + 1, ⟨M_23, _, (hM_19.trans hM_23), S, E.keep ⟨rfl, rfl, rfl, rfl, rfl, rfl, trivial⟩, by ((try clear S); (try clear E); first | assumption | omega | rfl | (simp; done) | (simp_all; done) | (simp [List.take_add_one, *]; done) | grind [List.take_add_one])⟩, by omega⟩
        · replace hc_20 := of_decide_eq_false hc_20
          have etk : l0.take k = l0 := List.take_of_length_le (by omega)
          have hul := (uqS_len (fun x => keyAt kk1 kn1 x 0) (l0.take k)).2
          rw [List.length_take] at hul
          have hs1 := (setI_spec ((uqS (fun x => keyAt kk1 kn1 x 0) (l0.take k)).1)).2.2
          refine WP_exit ?_
          refine T_x ?_
          refine T_x ?_
          refine B_x ?_
          refine T_n ?_
          refine WP_seq ?_
          refine WP_region ?_
          refine S_v E rfl (R_makeFunc E rfl rfl) rfl ?_
          clear E a; intro a E
          refine S_v E rfl (R_assign E rfl) rfl ?_
          clear E a; intro a E
          refine WL_nil ?_
          refine T_n ?_
          refine WP_seq ?_
          refine WP_region ?_
          refine S_v E rfl (R_assign E rfl) rfl ?_
          clear E a; intro a E
          refine WL_nil ?_
          refine T_n ?_
          refine WP_seq ?_
          refine WP_region ?_
          refine S_v E rfl (R_assign E rfl) rfl ?_
          clear E a; intro a E
          refine WL_nil ?_
          refine T_n ?_
          refine WP_seq ?_
          refine WP_seq ?_
          refine WP_region ?_
          refine S_v E rfl (R_move E rfl) rfl ?_
          clear E a; intro a E
          have S0 := S; clear S
          obtain ⟨M_32, hM_32, hz_33, S⟩ := S0.freezeI (by (first | omega | (simp; done) | (simp; omega) | (simp only [List.length_map, List.length_take, etk] at *; omega) | (simp only [List.length_map, List.length_take] at *; omega)))
          clear S0
          replace h0 := h0.le hM_32
          replace hb_1 := hM_32.2 _ _ hb_1
          replace hb_3 := hM_32.2 _ _ hb_3
          replace hz_8 := hz_8.le hM_32
          replace hv_10 := hv_10.le RG2_mono hM_32
          replace hv_12 := hv_12.le hM_32
          refine S_x (X_pu E S rfl rfl rfl (laws_sorted hz_33 (by (first | omega | (simp; omega) | (simp; done) | (simp_all; omega) | grind))) (Hp.le.refl _) ?_)
          clear E a S; rintro a v_35 w M_34 hM_34 hv_35 S E
          replace h0 := h0.le hM_34
          replace hb_1 := hM_34.2 _ _ hb_1
          replace hb_3 := hM_34.2 _ _ hb_3
          replace hz_8 := hz_8.le hM_34
          replace hv_10 := hv_10.le RG2_mono hM_34
          replace hv_12 := hv_12.le hM_34
          replace hz_33 := hz_33.le hM_34
          refine S_v E rfl (R_lenV E rfl T22 hv_35.len) rfl ?_
          clear E a; intro a E
          refine S_v E rfl (R_move E rfl) rfl ?_
          clear E a; intro a E
          refine WL_nil ?_
          refine T_n ?_
          refine WP_block ?_
          replace S : St w M_34 (OwnC 31 2 (.slice none 0 0) ([] : List (Int × List Int)).length [] :: _) := S.ownNil
          have hr_37 : RowsR RG2 2 M_34 ([] : List (Int × List Int)) [] := RowsR.nil
          have hre : ([] : List (Int × List Int)) = ((setI ((uqS (fun x => keyAt kk1 kn1 x 0) (l0.take k)).1)).take 0).map (fun key => (key, (fun key => l0.filter (fun x => decide (keyAt kk1 kn1 x 0 = key))) key)) := by first | (simp; done) | exact mpG_snoc (by assumption) rfl
          replace S := S.reR hre
          replace hr_37 := hr_37.eq hre
          clear hre
          refine WP_loop (γ := Nat) (fun (j : Nat) a w => ∃ (M_38 : Hp) (u10 : Value) (xs10 : List Value), Hp.le M_34 M_38 ∧ St w M_38 (OwnC 31 2 u10 (((setI ((uqS (fun x => keyAt kk1 kn1 x 0) (l0.take k)).1)).take j).map (fun key => (key, (fun key => l0.filter (fun x => decide (keyAt kk1 kn1 x 0 = key))) key))).length xs10 :: H) ∧ Env a 137 [] [(2, .pointer (some ⟨b_1, 0, none⟩)), (3, .pointer (some ⟨b_3, 0, none⟩)), (5, u5), (9, .func (.func 30) #[] #[.pointer (some ⟨b_1, 0, none⟩), .pointer (some ⟨b_3, 0, none⟩)]), (10, u10), (11, .slice none 0 0), (53, v_35), (54, .int .i64 (((setI ((uqS (fun x => keyAt kk1 kn1 x 0) (l0.take k)).1)).length : Nat) : Int)), (55, .int .i64 ((j : Nat) : Int))] ∧ (j ≤ (setI ((uqS (fun x => keyAt kk1 kn1 x 0) (l0.take k)).1)).length) ∧ RowsR RG2 2 M_38 (((setI ((uqS (fun x => keyAt kk1 kn1 x 0) (l0.take k)).1)).take j).map (fun key => (key, (fun key => l0.filter (fun x => decide (keyAt kk1 kn1 x 0 = key))) key))) xs10) (fun j => ((setI ((uqS (fun x => keyAt kk1 kn1 x 0) (l0.take k)).1)).length) - j) 0 ⟨M_34, _, _, Hp.le.refl _, S, E.keep ⟨rfl, rfl, rfl, rfl, rfl, rfl, rfl, rfl, rfl, trivial⟩, by ((try clear S); (try clear E); first | assumption | omega | rfl | (simp; done) | (simp_all; done) | (simp [List.take_add_one, *]; done) | grind [List.take_add_one]), hr_37⟩ ?_
          try clear E
          try clear S
          try clear a
          try clear w
          rintro j a w ⟨M_38, u10, xs10, hM_38, S, E, hL1_0, hr10⟩
          replace h0 := h0.le hM_38
          replace hb_1 := hM_38.2 _ _ hb_1
          replace hb_3 := hM_38.2 _ _ hb_3
          replace hz_8 := hz_8.le hM_38
          replace hv_10 := hv_10.le RG2_mono hM_38
          replace hv_12 := hv_12.le hM_38
          replace hz_33 := hz_33.le hM_38
          replace hv_35 := hv_35.le hM_38
          refine WP_seq ?_
          refine WP_region ?_
          refine S_v E rfl (R_lss E rfl rfl) rfl ?_
          clear E a; intro a E
          refine WL_nil ?_
          refine T_n ?_
          refine WP_seq ?_
          refine WP_cond E rfl (fun hc_39 => ?_) (fun hc_39 => ?_)
          · replace hc_39 := of_decide_eq_true hc_39
            refine WP_skip ?_
            refine T_n ?_
            refine WP_seq ?_
            refine WP_block ?_
            refine WP_seq ?_
            refine WP_region ?_
            obtain ⟨x_40, hx_40⟩ : ∃ x, (setI ((uqS (fun x => keyAt kk1 kn1 x 0) (l0.take k)).1))[j]? = some x := ⟨_, List.getElem?_eq_getElem (by first | omega | (simp; done) | (simp; omega) | (simp_all; omega))⟩
            obtain ⟨p_41, hp_41, qp_41⟩ := hv_35.at hx_40
            refine S_v E rfl (R_idx E rfl rfl T22 hp_41 rfl) rfl ?_
            clear E a; intro a E
            refine S_v E rfl (R_loadM E rfl Try.isAgg3 S.imm qp_41) rfl ?_
            clear E a; intro a E
            refine S_v E rfl (R_assign E rfl) rfl ?_
            clear E a; intro a E
            refine WL_nil ?_
            refine T_n ?_
            refine WP_region ?_
            refine S_v E rfl (R_move E rfl) rfl ?_
            clear E a; intro a E
            refine S_v E rfl (R_move E rfl) rfl ?_
            clear E a; intro a E
            refine S_v E rfl (R_move E rfl) rfl ?_
            clear E a; intro a E
            refine S_v E rfl (R_move E rfl) rfl ?_
            clear E a; intro a E
            refine S_x (X_pu E S rfl rfl rfl (laws_FnGroups1 h0 hb_1 (by omega) hb_3 (by omega) (by omega)) (Hp.le.refl _) ?_)
            clear E a S; rintro a v_43 w M_42 hM_42 hv_43 S E
            replace h0 := h0.le hM_42
            replace hb_1 := hM_42.2 _ _ hb_1
            replace hb_3 := hM_42.2 _ _ hb_3
            replace hz_8 := hz_8.le hM_42
            replace hv_10 := hv_10.le RG2_mono hM_42
            replace hv_12 := hv_12.le hM_42
            replace hz_33 := hz_33.le hM_42
            replace hv_35 := hv_35.le hM_42
            replace hr10 := hr10.le RG2_mono hM_42
            refine S_v E rfl (R_build (u := .agg #[.int .i64 x_40, v_43]) (vs := [.int .i64 x_40, v_43]) E rfl (fun w => by obtain ⟨A0, c0, e0, _⟩ := RdS.len hv_43; rw [e0]; exact FB31_0_1_is x_40 _ _ _ w)) rfl ?_
            clear E a; intro a E
            refine S_x (X_buildA1 (R := RG2) (cs := [.int .i64 x_40, v_43]) (x0 := (x_40, (l0).filter (fun x => decide (keyAt kk1 kn1 x 0 = x_40)))) RG2_mono E S rfl T25 rfl rfl rfl ⟨_, rfl, hv_43⟩ ?_)
            clear E a S; rintro a v_44 w M_45 hM_45 hv_44 S E
            replace h0 := h0.le hM_45
            replace hb_1 := hM_45.2 _ _ hb_1
            replace hb_3 := hM_45.2 _ _ hb_3
            replace hz_8 := hz_8.le hM_45
            replace hv_10 := hv_10.le RG2_mono hM_45
            replace hv_12 := hv_12.le hM_45
            replace hz_33 := hz_33.le hM_45
            replace hv_35 := hv_35.le hM_45
            replace hr10 := hr10.le RG2_mono hM_45
            replace hv_43 := hv_43.le hM_45
            refine S_x (X_appendR (R := RG2) (zs := ((setI ((uqS (fun x => keyAt kk1 kn1 x 0) (l0.take k)).1)).take j).map (fun key => (key, (fun key => l0.filter (fun x => decide (keyAt kk1 kn1 x 0 = key))) key))) (ys := [(x_40, (l0).filter (fun x => decide (keyAt kk1 kn1 x 0 = x_40)))]) E S hr10 rfl rfl rfl T25 hv_44 one_RG2 (by (first | omega | (simp; done) | (simp; omega) | (simp only [List.length_cons, List.length_nil, List.length_map, List.length_take, etk] at *; omega) | (simp only [List.length_cons, List.length_nil, List.length_map, List.length_take] at *; omega))) (by (first | omega | (simp; done) | (simp; omega) | (simp only [List.length_cons, List.length_nil, List.length_map, List.length_take, etk] at *; omega) | (simp only [List.length_cons, List.length_nil, List.length_map, List.length_take] at *; omega))) ?_)
            clear E a S; rintro a w v_46 xs_47 E hr_48 S
            refine S_v E rfl (R_assign E rfl) rfl ?_
            clear E a; intro a E
            refine WL_nil ?_
            refine B_n ?_
            refine T_n ?_
            refine WP_region ?_
            refine S_v E rfl (R_addx (m := ((j + 1 : Nat) : Int)) E rfl rfl (by omega) (by omega)) rfl ?_
            clear E a; intro a E
            refine S_v E rfl (R_move E rfl) rfl ?_
            clear E a; intro a E
            refine WL_nil ?_
            refine T_n ?_
            have hre : (((setI ((uqS (fun x => keyAt kk1 kn1 x 0) (l0.take k)).1)).take j).map (fun key => (key, (fun key => l0.filter (fun x => decide (keyAt kk1 kn1 x 0 = key))) key))) ++ [(x_40, (l0).filter (fun x => decide (keyAt kk1 kn1 x 0 = x_40)))] = ((setI ((uqS (fun x => keyAt kk1 kn1 x 0) (l0.take k)).1)).take (j + 1)).map (fun key => (key, (fun key => l0.filter (fun x => decide (keyAt kk1 kn1 x 0 = key))) key)) := by first | (simp; done) | exact mpG_snoc (by assumption) rfl
            replace S := S.reR hre
            replace hr_48 := hr_48.eq hre
            clear hre
            exact ⟨j + 1, ⟨M_45, _, _, (hM_38.trans (hM_42.trans hM_45)), S, E.keep ⟨rfl, rfl, rfl, rfl, rfl, rfl, rfl, rfl, rfl, trivial⟩, by ((try clear S); (try clear E); first | assumption | omega | rfl | (simp; done) | (simp_all; done) | (simp [List.take_add_one, *]; done) | grind [List.take_add_one]), hr_48⟩, by omega⟩
          · replace hc_39 := of_decide_eq_false hc_39
            have eall : ((setI ((uqS (fun x => keyAt kk1 kn1 x 0) (l0.take k)).1)).take j).map (fun key => (key, (fun key => l0.filter (fun x => decide (keyAt kk1 kn1 x 0 = key))) key)) = grpS (fun x => (keyAt kk1 kn1 x 0, x)) l0 := by rw [List.take_of_length_le (by omega), etk]; exact grpS_filt (fun x => keyAt kk1 kn1 x 0) l0
            refine WP_exit ?_
            refine T_x ?_
            refine T_x ?_
            refine B_x ?_
            refine T_n ?_
            refine WP_seq ?_
            refine WP_seq ?_
            refine WP_region ?_
            refine S_v E rfl (R_move E rfl) rfl ?_
            clear E a; intro a E
            refine S_v E rfl (R_lenV E rfl T22 hz_33.len) rfl ?_
            clear E a; intro a E
            refine S_v E rfl (R_move E rfl) rfl ?_
            clear E a; intro a E
            refine WL_nil ?_
            refine T_n ?_
            refine WP_block ?_
            replace S : St w M_38 (OwnC 22 1 (.slice none 0 0) ([] : List (List Int)).length [] :: _) := S.ownNil
            have hr_50 : RowsR (RSl 1 RInt) 1 M_38 ([] : List (List Int)) [] := RowsR.nil
            have hre : ([] : List (List Int)) = (((uqS (fun x => keyAt kk1 kn1 x 0) (l0.take k)).1).take 0).map (fun key => l0.filter (fun x => decide (keyAt kk1 kn1 x 0 = key))) := by first | (simp; done) | exact mpL_snoc (by assumption) rfl
            replace S := S.reR hre
            replace hr_50 := hr_50.eq hre
            clear hre
            refine WP_loop (γ := Nat) (fun (j2 : Nat) a w => ∃ (M_51 : Hp) (u11 : Value) (xs11 : List Value), Hp.le M_38 M_51 ∧ St w M_51 (OwnC 22 1 u11 ((((uqS (fun x => keyAt kk1 kn1 x 0) (l0.take k)).1).take j2).map (fun key => l0.filter (fun x => decide (keyAt kk1 kn1 x 0 = key)))).length xs11 :: OwnC 31 2 u10 (((setI ((uqS (fun x => keyAt kk1 kn1 x 0) (l0.take k)).1)).take j).map (fun key => (key, (fun key => l0.filter (fun x => decide (keyAt kk1 kn1 x 0 = key))) key))).length xs10 :: H) ∧ Env a 137 [] [(2, .pointer (some ⟨b_1, 0, none⟩)), (3, .pointer (some ⟨b_3, 0, none⟩)), (9, .func (.func 30) #[] #[.pointer (some ⟨b_1, 0, none⟩), .pointer (some ⟨b_3, 0, none⟩)]), (10, u10), (11, u11), (68, u5), (69, .int .i64 ((((uqS (fun x => keyAt kk1 kn1 x 0) (l0.take k)).1).length : Nat) : Int)), (70, .int .i64 ((j2 : Nat) : Int))] ∧ (j2 ≤ ((uqS (fun x => keyAt kk1 kn1 x 0) (l0.take k)).1).length) ∧ RowsR (RSl 1 RInt) 1 M_51 ((((uqS (fun x => keyAt kk1 kn1 x 0) (l0.take k)).1).take j2).map (fun key => l0.filter (fun x => decide (keyAt kk1 kn1 x 0 = key)))) xs11) (fun j2 => (((uqS (fun x => keyAt kk1 kn1 x 0) (l0.take k)).1).length) - j2) 0 ⟨M_38, _, _, Hp.le.refl _, S, E.keep ⟨rfl, rfl, rfl, rfl, rfl, rfl, rfl, rfl, trivial⟩, by ((try clear S); (try clear E); first | assumption | omega | rfl | (simp; done) | (simp_all; done) | (simp [List.take_add_one, *]; done) | grind [List.take_add_one]), hr_50⟩ ?_
            try clear E
            try clear S
            try clear a
            try clear w
            rintro j2 a w ⟨M_51, u11, xs11, hM_51, S, E, hL2_0, hr11⟩
            replace h0 := h0.le hM_51
            replace hb_1 := hM_51.2 _ _ hb_1
            replace hb_3 := hM_51.2 _ _ hb_3
            replace hz_8 := hz_8.le hM_51
            replace hv_10 := hv_10.le RG2_mono hM_51
            replace hv_12 := hv_12.le hM_51
            replace hz_33 := hz_33.le hM_51
            replace hv_35 := hv_35.le hM_51
            replace hr10 := hr10.le RG2_mono hM_51
            refine WP_seq ?_
            refine WP_region ?_
            refine S_v E rfl (R_lss E rfl rfl) rfl ?_
            clear E a; intro a E
            refine WL_nil ?_
            refine T_n ?_
            refine WP_seq ?_
            refine WP_cond E rfl (fun hc_52 => ?_) (fun hc_52 => ?_)
            · replace hc_52 := of_decide_eq_true hc_52
              refine WP_skip ?_
              refine T_n ?_
              refine WP_seq ?_
              refine WP_block ?_
              refine WP_seq ?_
              refine WP_region ?_
              obtain ⟨x_53, hx_53⟩ : ∃ x, ((uqS (fun x => keyAt kk1 kn1 x 0) (l0.take k)).1)[j2]? = some x := ⟨_, List.getElem?_eq_getElem (by first | omega | (simp; done) | (simp; omega) | (simp_all; omega))⟩
              obtain ⟨p_54, hp_54, qp_54⟩ := hz_33.at hx_53
              refine S_v E rfl (R_idx E rfl rfl T22 hp_54 rfl) rfl ?_
              clear E a; intro a E
              refine S_v E rfl (R_loadM E rfl Try.isAgg3 S.imm qp_54) rfl ?_
              clear E a; intro a E
              refine S_v E rfl (R_assign E rfl) rfl ?_
              clear E a; intro a E
              refine WL_nil ?_
              refine T_n ?_
              refine WP_region ?_
              refine S_v E rfl (R_move E rfl) rfl ?_
              clear E a; intro a E
              refine S_v E rfl (R_move E rfl) rfl ?_
              clear E a; intro a E
              refine S_v E rfl (R_move E rfl) rfl ?_
              clear E a; intro a E
              refine S_x (X_pu E S rfl rfl rfl (laws_FnGroups1 h0 hb_1 (by omega) hb_3 (by omega) (by omega)) (Hp.le.refl _) ?_)
              clear E a S; rintro a v_56 w M_55 hM_55 hv_56 S E
              replace h0 := h0.le hM_55
              replace hb_1 := hM_55.2 _ _ hb_1
              replace hb_3 := hM_55.2 _ _ hb_3
              replace hz_8 := hz_8.le hM_55
              replace hv_10 := hv_10.le RG2_mono hM_55
              replace hv_12 := hv_12.le hM_55
              replace hz_33 := hz_33.le hM_55
              replace hv_35 := hv_35.le hM_55
              replace hr10 := hr10.le RG2_mono hM_55
              replace hr11 := hr11.le (RSl_mono RInt_mono) hM_55
              refine S_x (X_buildM (R := RSl 1 RInt) (vs := [v_56]) (xs := [(l0).filter (fun x => decide (keyAt kk1 kn1 x 0 = x_53))]) (RSl_mono RInt_mono) E S rfl T54 rfl rfl rfl (by intro u hu; simp only [List.mem_cons, List.not_mem_nil, or_false] at hu; rcases hu with rfl <;> first | exact RdI.one hv_56 | rfl) rfl (rowsC (R := RSl 1 RInt) (RdI.row hv_56) rowsN) ?_)
              clear E a S; rintro a v_57 w M_58 hM_58 hv_57 S E
              replace hv_57 : RdII M_58 v_57 [(l0).filter (fun x => decide (keyAt kk1 kn1 x 0 = x_53))] := hv_57
              replace h0 := h0.le hM_58
              replace hb_1 := hM_58.2 _ _ hb_1
              replace hb_3 := hM_58.2 _ _ hb_3
              replace hz_8 := hz_8.le hM_58
              replace hv_10 := hv_10.le RG2_mono hM_58
              replace hv_12 := hv_12.le hM_58
              replace hz_33 := hz_33.le hM_58
              replace hv_35 := hv_35.le hM_58
              replace hr10 := hr10.le RG2_mono hM_58
              replace hr11 := hr11.le (RSl_mono RInt_mono) hM_58
              replace hv_56 := hv_56.le hM_58
              refine S_x (X_appendR (R := (RSl 1 RInt)) (zs := (((uqS (fun x => keyAt kk1 kn1 x 0) (l0.take k)).1).take j2).map (fun key => l0.filter (fun x => decide (keyAt kk1 kn1 x 0 = key)))) (ys := [(l0).filter (fun x => decide (keyAt kk1 kn1 x 0 = x_53))]) E S hr11 rfl rfl rfl T54 hv_57 one_RSl (by (first | omega | (simp; done) | (simp; omega) | (simp only [List.length_cons, List.length_nil, List.length_map, List.length_take, etk] at *; omega) | (simp only [List.length_cons, List.length_nil, List.length_map, List.length_take] at *; omega))) (by (first | omega | (simp; done) | (simp; omega) | (simp only [List.length_cons, List.length_nil, List.length_map, List.length_take, etk] at *; omega) | (simp only [List.length_cons, List.length_nil, List.length_map, List.length_take] at *; omega))) ?_)
              clear E a S; rintro a w v_59 xs_60 E hr_61 S
              refine S_v E rfl (R_assign E rfl) rfl ?_
              clear E a; intro a E
              refine WL_nil ?_
              refine B_n ?_
              refine T_n ?_
              refine WP_region ?_
              refine S_v E rfl (R_addx (m := ((j2 + 1 : Nat) : Int)) E rfl rfl (by omega) (by omega)) rfl ?_
              clear E a; intro a E
              refine S_v E rfl (R_move E rfl) rfl ?_
              clear E a; intro a E
              refine WL_nil ?_
              refine T_n ?_
              have hre : ((((uqS (fun x => keyAt kk1 kn1 x 0) (l0.take k)).1).take j2).map (fun key => l0.filter (fun x => decide (keyAt kk1 kn1 x 0 = key)))) ++ [(l0).filter (fun x => decide (keyAt kk1 kn1 x 0 = x_53))] = (((uqS (fun x => keyAt kk1 kn1 x 0) (l0.take k)).1).take (j2 + 1)).map (fun key => l0.filter (fun x => decide (keyAt kk1 kn1 x 0 = key))) := by first | (simp; done) | exact mpL_snoc (by assumption) rfl
              replace S := S.reR hre
              replace hr_61 := hr_61.eq hre
              clear hre
              exact ⟨j2 + 1, ⟨M_58, _, _, (hM_51.trans (hM_55.trans hM_58)), S, E.keep ⟨rfl, rfl, rfl, rfl, rfl, rfl, rfl, rfl, trivial⟩, by ((try clear S); (try clear E); first | assumption | omega | rfl | (simp; done) | (simp_all; done) | (simp [List.take_add_one, *]; done) | grind [List.take_add_one]), hr_61⟩, by omega⟩
            · replace hc_52 := of_decide_eq_false hc_52
              have eprt : (((uqS (fun x => keyAt kk1 kn1 x 0) (l0.take k)).1).take j2).map (fun key => l0.filter (fun x => decide (keyAt kk1 kn1 x 0 = key))) = partL (fun x => keyAt kk1 kn1 x 0) l0 := by rw [List.take_of_length_le (by omega), etk]; rfl
              refine WP_exit ?_
              refine T_x ?_
              refine T_x ?_
              refine B_x ?_
              refine T_n ?_
              refine WP_seq ?_
              refine WP_region ?_
              refine S_v E rfl (R_move E rfl) rfl ?_
              clear E a; intro a E
              refine S_v E rfl (R_loadM E rfl Try.isAgg22 S.imm (cellM_box hb_1)) rfl ?_
              clear E a; intro a E
              refine S_v E rfl (R_loadGM E rfl (Try.isAgg24 _) (Try.sizeOf24 _) S.imm hb_3) rfl ?_
              clear E a; intro a E
              refine S_x (X_pu E S rfl rfl rfl (spec_GroupBy h0 (by omega) (by (first | omega | (simp; omega) | (simp; done) | (simp_all; omega) | grind)) (by first | assumption | exact (fun x hx => by rcases List.mem_append.1 hx with h | h; exact hr0 x h; exact hr1 x h))) (Hp.le.refl _) ?_)
              clear E a S; rintro a v_63 w M_62 hM_62 hv_63 S E
              replace h0 := h0.le hM_62
              replace hb_1 := hM_62.2 _ _ hb_1
              replace hb_3 := hM_62.2 _ _ hb_3
              replace hz_8 := hz_8.le hM_62
              replace hv_10 := hv_10.le RG2_mono hM_62
              replace hv_12 := hv_12.le hM_62
              replace hz_33 := hz_33.le hM_62
              replace hv_35 := hv_35.le hM_62
              replace hr10 := hr10.le RG2_mono hM_62
              replace hr11 := hr11.le (RSl_mono RInt_mono) hM_62
              replace S := S.front1
              have S0 := S; clear S
              obtain ⟨M_64, hM_64, hz_65, S⟩ := S0.freezeR hr10 RG2_mono (by (first | omega | (simp; done) | (simp; omega) | (simp only [List.length_map, List.length_take, etk] at *; omega) | (simp only [List.length_map, List.length_take] at *; omega)))
              clear S0
              replace h0 := h0.le hM_64
              replace hb_1 := hM_64.2 _ _ hb_1
              replace hb_3 := hM_64.2 _ _ hb_3
              replace hz_8 := hz_8.le hM_64
              replace hv_10 := hv_10.le RG2_mono hM_64
              replace hv_12 := hv_12.le hM_64
              replace hz_33 := hz_33.le hM_64
              replace hv_35 := hv_35.le hM_64
              replace hr11 := hr11.le (RSl_mono RInt_mono) hM_64
              replace hv_63 := hv_63.le RG2_mono hM_64
              refine S_x (X_pu E S rfl rfl rfl (laws_refGroups hz_65 hv_63) (Hp.le.refl _) ?_)
              clear E a S; rintro a _ w M_66 hM_66 rfl S E
              replace h0 := h0.le hM_66
              replace hb_1 := hM_66.2 _ _ hb_1
              replace hb_3 := hM_66.2 _ _ hb_3
              replace hz_8 := hz_8.le hM_66
              replace hv_10 := hv_10.le RG2_mono hM_66
              replace hv_12 := hv_12.le hM_66
              replace hz_33 := hz_33.le hM_66
              replace hv_35 := hv_35.le hM_66
              replace hr11 := hr11.le (RSl_mono RInt_mono) hM_66
              replace hv_63 := hv_63.le RG2_mono hM_66
              replace hz_65 := hz_65.le RG2_mono hM_66
              refine S_v E rfl (R_move E rfl) rfl ?_
              clear E a; intro a E
              have hc_67 : (decide (((setI ((uqS (fun x => keyAt kk1 kn1 x 0) (l0.take k)).1)).take j).map (fun key => (key, (fun key => l0.filter (fun x => decide (keyAt kk1 kn1 x 0 = key))) key)) = grpS (fun x => (keyAt kk1 kn1 x 0, x)) l0)) = true := by (clear S E; first | (rw [grpS_one]; decide) | (simp; done) | decide | (first | refine dec_t ?_ | refine dec_f ?_ | skip); first | (rw [eall]; done) | (rw [eall]; rfl) | (rw [eprt]; rfl) | (rw [eprt]; done) | (rw [eall]; exact (grpS_self hr0).symm) | (rw [eall]; exact grpS_self hr0))
              replace E := E.val (t := 85) rfl hc_67
              replace E := E.val (t := 86) rfl hc_67
              refine WL_guard_yes E rfl rfl ?_
              refine S_v E rfl (R_loadM E rfl Try.isAgg22 S.imm (cellM_box hb_1)) rfl ?_
              clear E a; intro a E
              refine WL_guard_yes E rfl rfl ?_
              refine S_v E rfl (R_loadGM E rfl (Try.isAgg24 _) (Try.sizeOf24 _) S.imm hb_3) rfl ?_
              clear E a; intro a E
              refine WL_guard_yes E rfl rfl ?_
              refine S_x (X_pu E S rfl rfl rfl (spec_PartitionBy h0 (by omega) (by (first | omega | (simp; omega) | (simp; done) | (simp_all; omega) | grind)) (by first | assumption | exact (fun x hx => by rcases List.mem_append.1 hx with h | h; exact hr0 x h; exact hr1 x h))) (Hp.le.refl _) ?_)
              clear E a S; rintro a v_69 w M_68 hM_68 hv_69 S E
              replace h0 := h0.le hM_68
              replace hb_1 := hM_68.2 _ _ hb_1
              replace hb_3 := hM_68.2 _ _ hb_3
              replace hz_8 := hz_8.le hM_68
              replace hv_10 := hv_10.le RG2_mono hM_68
              replace hv_12 := hv_12.le hM_68
              replace hz_33 := hz_33.le hM_68
              replace hv_35 := hv_35.le hM_68
              replace hr11 := hr11.le (RSl_mono RInt_mono) hM_68
              replace hv_63 := hv_63.le RG2_mono hM_68
              replace hz_65 := hz_65.le RG2_mono hM_68
              refine WL_guard_yes E rfl rfl ?_
              refine S_v E rfl (R_move E rfl) rfl ?_
              clear E a; intro a E
              have S0 := S; clear S
              obtain ⟨M_70, hM_70, hz_71, S⟩ := S0.freezeR hr11 (RSl_mono RInt_mono) (by (first | omega | (simp; done) | (simp; omega) | (simp only [List.length_map, List.length_take, etk] at *; omega) | (simp only [List.length_map, List.length_take] at *; omega)))
              clear S0
              replace hz_71 : RdII M_70 u11 ((((uqS (fun x => keyAt kk1 kn1 x 0) (l0.take k)).1).take j2).map (fun key => l0.filter (fun x => decide (keyAt kk1 kn1 x 0 = key)))) := hz_71
              replace h0 := h0.le hM_70
              replace hb_1 := hM_70.2 _ _ hb_1
              replace hb_3 := hM_70.2 _ _ hb_3
              replace hz_8 := hz_8.le hM_70
              replace hv_10 := hv_10.le RG2_mono hM_70
              replace hv_12 := hv_12.le hM_70
              replace hz_33 := hz_33.le hM_70
              replace hv_35 := hv_35.le hM_70
              replace hv_63 := hv_63.le RG2_mono hM_70
              replace hz_65 := hz_65.le RG2_mono hM_70
              replace hv_69 := hv_69.le hM_70
              refine WL_guard_yes E rfl rfl ?_
              refine S_x (X_pu E S rfl rfl rfl (laws_eqLists hv_69 hz_71) (Hp.le.refl _) ?_)
              clear E a S; rintro a _ w M_72 hM_72 rfl S E
              replace h0 := h0.le hM_72
              replace hb_1 := hM_72.2 _ _ hb_1
              replace hb_3 := hM_72.2 _ _ hb_3
              replace hz_8 := hz_8.le hM_72
              replace hv_10 := hv_10.le RG2_mono hM_72
              replace hv_12 := hv_12.le hM_72
              replace hz_33 := hz_33.le hM_72
              replace hv_35 := hv_35.le hM_72
              replace hv_63 := hv_63.le RG2_mono hM_72
              replace hz_65 := hz_65.le RG2_mono hM_72
              replace hv_69 := hv_69.le hM_72
              replace hz_71 := hz_71.le hM_72
              refine S_v E rfl (R_pickT E rfl rfl) rfl ?_
              clear E a; intro a E
              refine S_v E rfl (R_move E rfl) rfl ?_
              clear E a; intro a E
              have hc_73 : (decide (partL (fun x => keyAt kk1 kn1 x 0) l0 = (((uqS (fun x => keyAt kk1 kn1 x 0) (l0.take k)).1).take j2).map (fun key => l0.filter (fun x => decide (keyAt kk1 kn1 x 0 = key))))) = true := by (clear S E; first | (rw [grpS_one]; decide) | (simp; done) | decide | (first | refine dec_t ?_ | refine dec_f ?_ | skip); first | (rw [eall]; done) | (rw [eall]; rfl) | (rw [eprt]; rfl) | (rw [eprt]; done) | (rw [eall]; exact (grpS_self hr0).symm) | (rw [eall]; exact grpS_self hr0))
              replace E := E.val (t := 91) rfl hc_73
              replace E := E.val (t := 92) rfl hc_73
              replace E := E.val (t := 93) rfl hc_73
              refine WL_guard_yes E rfl rfl ?_
              refine S_v E rfl (R_loadM E rfl Try.isAgg22 S.imm (cellM_box hb_1)) rfl ?_
              clear E a; intro a E
              refine WL_guard_yes E rfl rfl ?_
              refine S_v E rfl (R_loadGM E rfl (Try.isAgg24 _) (Try.sizeOf24 _) S.imm hb_3) rfl ?_
              clear E a; intro a E
              refine WL_guard_yes E rfl rfl ?_
              refine S_x (X_pu E S rfl rfl rfl (impl_GroupBy h0 (by omega) (by (first | omega | (simp; omega) | (simp; done) | (simp_all; omega) | grind))) (Hp.le.refl _) ?_)
              clear E a S; rintro a v_75 w M_74 hM_74 hv_75 S E
              replace h0 := h0.le hM_74
              replace hb_1 := hM_74.2 _ _ hb_1
              replace hb_3 := hM_74.2 _ _ hb_3
              replace hz_8 := hz_8.le hM_74
              replace hv_10 := hv_10.le RG2_mono hM_74
              replace hv_12 := hv_12.le hM_74
              replace hz_33 := hz_33.le hM_74
              replace hv_35 := hv_35.le hM_74
              replace hv_63 := hv_63.le RG2_mono hM_74
              replace hz_65 := hz_65.le RG2_mono hM_74
              replace hv_69 := hv_69.le hM_74
              replace hz_71 := hz_71.le hM_74
              refine WL_guard_yes E rfl rfl ?_
              refine S_v E rfl (R_move E rfl) rfl ?_
              clear E a; intro a E
              refine WL_guard_yes E rfl rfl ?_
              refine S_x (X_pu E S rfl rfl rfl (laws_eqGroups hv_75 hz_65) (Hp.le.refl _) ?_)
              clear E a S; rintro a _ w M_76 hM_76 rfl S E
              replace h0 := h0.le hM_76
              replace hb_1 := hM_76.2 _ _ hb_1
              replace hb_3 := hM_76.2 _ _ hb_3
              replace hz_8 := hz_8.le hM_76
              replace hv_10 := hv_10.le RG2_mono hM_76
              replace hv_12 := hv_12.le hM_76
              replace hz_33 := hz_33.le hM_76
              replace hv_35 := hv_35.le hM_76
              replace hv_63 := hv_63.le RG2_mono hM_76
              replace hz_65 := hz_65.le RG2_mono hM_76
              replace hv_69 := hv_69.le hM_76
              replace hz_71 := hz_71.le hM_76
              replace hv_75 := hv_75.le RG2_mono hM_76
              refine S_v E rfl (R_pickT E rfl rfl) rfl ?_
              clear E a; intro a E
              refine S_v E rfl (R_move E rfl) rfl ?_
              clear E a; intro a E
              have hc_77 : (decide (grpS (fun x => (keyAt kk1 kn1 x 0, x)) l0 = ((setI ((uqS (fun x => keyAt kk1 kn1 x 0) (l0.take k)).1)).take j).map (fun key => (key, (fun key => l0.filter (fun x => decide (keyAt kk1 kn1 x 0 = key))) key)))) = true := by (clear S E; first | (rw [grpS_one]; decide) | (simp; done) | decide | (first | refine dec_t ?_ | refine dec_f ?_ | skip); first | (rw [eall]; done) | (rw [eall]; rfl) | (rw [eprt]; rfl) | (rw [eprt]; done) | (rw [eall]; exact (grpS_self hr0).symm) | (rw [eall]; exact grpS_self hr0))
              replace E := E.val (t := 98) rfl hc_77
              replace E := E.val (t := 99) rfl hc_77
              replace E := E.val (t := 100) rfl hc_77
              refine WL_guard_yes E rfl rfl ?_
              refine S_v E rfl (R_loadM E rfl Try.isAgg22 S.imm (cellM_box hb_1)) rfl ?_
              clear E a; intro a E
              refine WL_guard_yes E rfl rfl ?_
              refine S_v E rfl (R_loadGM E rfl (Try.isAgg24 _) (Try.sizeOf24 _) S.imm hb_3) rfl ?_
              clear E a; intro a E
              refine WL_guard_yes E rfl rfl ?_
              refine S_x (X_pu E S rfl rfl rfl (impl_GroupBySeq h0 (by omega) (by (first | omega | (simp; omega) | (simp; done) | (simp_all; omega) | grind))) (Hp.le.refl _) ?_)
              clear E a S; rintro a v_79 w M_78 hM_78 hv_79 S E
              replace h0 := h0.le hM_78
              replace hb_1 := hM_78.2 _ _ hb_1
              replace hb_3 := hM_78.2 _ _ hb_3
              replace hz_8 := hz_8.le hM_78
              replace hv_10 := hv_10.le RG2_mono hM_78
              replace hv_12 := hv_12.le hM_78
              replace hz_33 := hz_33.le hM_78
              replace hv_35 := hv_35.le hM_78
              replace hv_63 := hv_63.le RG2_mono hM_78
              replace hz_65 := hz_65.le RG2_mono hM_78
              replace hv_69 := hv_69.le hM_78
              replace hz_71 := hz_71.le hM_78
              replace hv_75 := hv_75.le RG2_mono hM_78
              refine WL_guard_yes E rfl rfl ?_
              refine S_v E rfl (R_move E rfl) rfl ?_
              clear E a; intro a E
              refine WL_guard_yes E rfl rfl ?_
              refine S_x (X_pu E S rfl rfl rfl (laws_eqGroups hv_79 hz_65) (Hp.le.refl _) ?_)
              clear E a S; rintro a _ w M_80 hM_80 rfl S E
              replace h0 := h0.le hM_80
              replace hb_1 := hM_80.2 _ _ hb_1
              replace hb_3 := hM_80.2 _ _ hb_3
              replace hz_8 := hz_8.le hM_80
              replace hv_10 := hv_10.le RG2_mono hM_80
              replace hv_12 := hv_12.le hM_80
              replace hz_33 := hz_33.le hM_80
              replace hv_35 := hv_35.le hM_80
              replace hv_63 := hv_63.le RG2_mono hM_80
              replace hz_65 := hz_65.le RG2_mono hM_80
              replace hv_69 := hv_69.le hM_80
              replace hz_71 := hz_71.le hM_80
              replace hv_75 := hv_75.le RG2_mono hM_80
              replace hv_79 := hv_79.le RG2_mono hM_80
              refine S_v E rfl (R_pickT E rfl rfl) rfl ?_
              clear E a; intro a E
              refine S_v E rfl (R_move E rfl) rfl ?_
              clear E a; intro a E
              have hc_81 : (decide (grpS (fun x => (keyAt kk1 kn1 x 0, x)) l0 = ((setI ((uqS (fun x => keyAt kk1 kn1 x 0) (l0.take k)).1)).take j).map (fun key => (key, (fun key => l0.filter (fun x => decide (keyAt kk1 kn1 x 0 = key))) key)))) = true := by (clear S E; first | (rw [grpS_one]; decide) | (simp; done) | decide | (first | refine dec_t ?_ | refine dec_f ?_ | skip); first | (rw [eall]; done) | (rw [eall]; rfl) | (rw [eprt]; rfl) | (rw [eprt]; done) | (rw [eall]; exact (grpS_self hr0).symm) | (rw [eall]; exact grpS_self hr0))
              replace E := E.val (t := 105) rfl hc_81
              replace E := E.val (t := 106) rfl hc_81
              replace E := E.val (t := 107) rfl hc_81
              refine WL_guard_yes E rfl rfl ?_
              refine S_v E rfl (R_loadM E rfl Try.isAgg22 S.imm (cellM_box hb_1)) rfl ?_
              clear E a; intro a E
              refine WL_guard_yes E rfl rfl ?_
              refine S_v E rfl (R_loadGM E rfl (Try.isAgg24 _) (Try.sizeOf24 _) S.imm hb_3) rfl ?_
              clear E a; intro a E
              refine WL_guard_yes E rfl rfl ?_
              refine S_v E rfl (R_build (u := .agg #[.int .i64 0, .int .i64 0]) (vs := []) E rfl (fun w => FB24__  w)) rfl ?_
              clear E a; intro a E
              refine WL_guard_yes E rfl rfl ?_
              refine S_x (X_pu E S rfl rfl rfl (impl_GroupByMap h0 (by omega) (by omega) (by (first | omega | (simp; omega) | (simp; done) | (simp_all; omega) | grind))) (Hp.le.refl _) ?_)
              clear E a S; rintro a v_83 w M_82 hM_82 hv_83 S E
              replace h0 := h0.le hM_82
              replace hb_1 := hM_82.2 _ _ hb_1
              replace hb_3 := hM_82.2 _ _ hb_3
              replace hz_8 := hz_8.le hM_82
              replace hv_10 := hv_10.le RG2_mono hM_82
              replace hv_12 := hv_12.le hM_82
              replace hz_33 := hz_33.le hM_82
              replace hv_35 := hv_35.le hM_82
              replace hv_63 := hv_63.le RG2_mono hM_82
              replace hz_65 := hz_65.le RG2_mono hM_82
              replace hv_69 := hv_69.le hM_82
              replace hz_71 := hz_71.le hM_82
              replace hv_75 := hv_75.le RG2_mono hM_82
              replace hv_79 := hv_79.le RG2_mono hM_82
              refine WL_guard_yes E rfl rfl ?_
              refine S_v E rfl (R_move E rfl) rfl ?_
              clear E a; intro a E
              refine WL_guard_yes E rfl rfl ?_
              refine S_x (X_pu E S rfl rfl rfl (laws_eqGroups hv_83 hz_65) (Hp.le.refl _) ?_)
              clear E a S; rintro a _ w M_84 hM_84 rfl S E
              replace h0 := h0.le hM_84
              replace hb_1 := hM_84.2 _ _ hb_1
              replace hb_3 := hM_84.2 _ _ hb_3
              replace hz_8 := hz_8.le hM_84
              replace hv_10 := hv_10.le RG2_mono hM_84
              replace hv_12 := hv_12.le hM_84
              replace hz_33 := hz_33.le hM_84
              replace hv_35 := hv_35.le hM_84
              replace hv_63 := hv_63.le RG2_mono hM_84
              replace hz_65 := hz_65.le RG2_mono hM_84
              replace hv_69 := hv_69.le hM_84
              replace hz_71 := hz_71.le hM_84
              replace hv_75 := hv_75.le RG2_mono hM_84
              replace hv_79 := hv_79.le RG2_mono hM_84
              replace hv_83 := hv_83.le RG2_mono hM_84
              refine S_v E rfl (R_pickT E rfl rfl) rfl ?_
              clear E a; intro a E
              refine S_v E rfl (R_move E rfl) rfl ?_
              clear E a; intro a E
              have hc_85 : (decide (grpS (fun x => (keyAt kk1 kn1 x 0, keyAt 0 0 x 0)) l0 = ((setI ((uqS (fun x => keyAt kk1 kn1 x 0) (l0.take k)).1)).take j).map (fun key => (key, (fun key => l0.filter (fun x => decide (keyAt kk1 kn1 x 0 = key))) key)))) = true := by (clear S E; first | (rw [grpS_one]; decide) | (simp; done) | decide | (first | refine dec_t ?_ | refine dec_f ?_ | skip); first | (rw [eall]; done) | (rw [eall]; rfl) | (rw [eprt]; rfl) | (rw [eprt]; done) | (rw [eall]; exact (grpS_self hr0).symm) | (rw [eall]; exact grpS_self hr0))
              replace E := E.val (t := 113) rfl hc_85
              replace E := E.val (t := 114) rfl hc_85
              replace E := E.val (t := 115) rfl hc_85
              refine WL_guard_yes E rfl rfl ?_
              refine S_v E rfl (R_loadM E rfl Try.isAgg22 S.imm (cellM_box hb_1)) rfl ?_
              clear E a; intro a E
              refine WL_guard_yes E rfl rfl ?_
              refine S_v E rfl (R_loadGM E rfl (Try.isAgg24 _) (Try.sizeOf24 _) S.imm hb_3) rfl ?_
              clear E a; intro a E
              refine WL_guard_yes E rfl rfl ?_
              refine S_v E rfl (R_build (u := .agg #[.int .i64 0, .int .i64 0]) (vs := []) E rfl (fun w => FB24__  w)) rfl ?_
              clear E a; intro a E
              refine WL_guard_yes E rfl rfl ?_
              refine S_x (X_pu E S rfl rfl rfl (impl_GroupByMapSeq h0 (by omega) (by omega) (by (first | omega | (simp; omega) | (simp; done) | (simp_all; omega) | grind))) (Hp.le.refl _) ?_)
              clear E a S; rintro a v_87 w M_86 hM_86 hv_87 S E
              replace h0 := h0.le hM_86
              replace hb_1 := hM_86.2 _ _ hb_1
              replace hb_3 := hM_86.2 _ _ hb_3
              replace hz_8 := hz_8.le hM_86
              replace hv_10 := hv_10.le RG2_mono hM_86
              replace hv_12 := hv_12.le hM_86
              replace hz_33 := hz_33.le hM_86
              replace hv_35 := hv_35.le hM_86
              replace hv_63 := hv_63.le RG2_mono hM_86
              replace hz_65 := hz_65.le RG2_mono hM_86
              replace hv_69 := hv_69.le hM_86
              replace hz_71 := hz_71.le hM_86
              replace hv_75 := hv_75.le RG2_mono hM_86
              replace hv_79 := hv_79.le RG2_mono hM_86
              replace hv_83 := hv_83.le RG2_mono hM_86
              refine WL_guard_yes E rfl rfl ?_
              refine S_v E rfl (R_move E rfl) rfl ?_
              clear E a; intro a E
              refine WL_guard_yes E rfl rfl ?_
              refine S_x (X_pu E S rfl rfl rfl (laws_eqGroups hv_87 hz_65) (Hp.le.refl _) ?_)
              clear E a S; rintro a _ w M_88 hM_88 rfl S E
              replace h0 := h0.le hM_88
              replace hb_1 := hM_88.2 _ _ hb_1
              replace hb_3 := hM_88.2 _ _ hb_3
              replace hz_8 := hz_8.le hM_88
              replace hv_10 := hv_10.le RG2_mono hM_88
              replace hv_12 := hv_12.le hM_88
              replace hz_33 := hz_33.le hM_88
              replace hv_35 := hv_35.le hM_88
              replace hv_63 := hv_63.le RG2_mono hM_88
              replace hz_65 := hz_65.le RG2_mono hM_88
              replace hv_69 := hv_69.le hM_88
              replace hz_71 := hz_71.le hM_88
              replace hv_75 := hv_75.le RG2_mono hM_88
              replace hv_79 := hv_79.le RG2_mono hM_88
              replace hv_83 := hv_83.le RG2_mono hM_88
              replace hv_87 := hv_87.le RG2_mono hM_88
              refine S_v E rfl (R_pickT E rfl rfl) rfl ?_
              clear E a; intro a E
              refine S_v E rfl (R_move E rfl) rfl ?_
              clear E a; intro a E
              have hc_89 : (decide (grpS (fun x => (keyAt kk1 kn1 x 0, keyAt 0 0 x 0)) l0 = ((setI ((uqS (fun x => keyAt kk1 kn1 x 0) (l0.take k)).1)).take j).map (fun key => (key, (fun key => l0.filter (fun x => decide (keyAt kk1 kn1 x 0 = key))) key)))) = true := by (clear S E; first | (rw [grpS_one]; decide) | (simp; done) | decide | (first | refine dec_t ?_ | refine dec_f ?_ | skip); first | (rw [eall]; done) | (rw [eall]; rfl) | (rw [eprt]; rfl) | (rw [eprt]; done) | (rw [eall]; exact (grpS_self hr0).symm) | (rw [eall]; exact grpS_self hr0))
              replace E := E.val (t := 121) rfl hc_89
              replace E := E.val (t := 122) rfl hc_89
              replace E := E.val (t := 123) rfl hc_89
              refine WL_guard_yes E rfl rfl ?_
              refine S_v E rfl (R_loadM E rfl Try.isAgg22 S.imm (cellM_box hb_1)) rfl ?_
              clear E a; intro a E
              refine WL_guard_yes E rfl rfl ?_
              refine S_v E rfl (R_loadGM E rfl (Try.isAgg24 _) (Try.sizeOf24 _) S.imm hb_3) rfl ?_
              clear E a; intro a E
              refine WL_guard_yes E rfl rfl ?_
              refine S_x (X_pu E S rfl rfl rfl (impl_PartitionBy h0 (by omega) (by (first | omega | (simp; omega) | (simp; done) | (simp_all; omega) | grind))) (Hp.le.refl _) ?_)
              clear E a S; rintro a v_91 w M_90 hM_90 hv_91 S E
              replace h0 := h0.le hM_90
              replace hb_1 := hM_90.2 _ _ hb_1
              replace hb_3 := hM_90.2 _ _ hb_3
              replace hz_8 := hz_8.le hM_90
              replace hv_10 := hv_10.le RG2_mono hM_90
              replace hv_12 := hv_12.le hM_90
              replace hz_33 := hz_33.le hM_90
              replace hv_35 := hv_35.le hM_90
              replace hv_63 := hv_63.le RG2_mono hM_90
              replace hz_65 := hz_65.le RG2_mono hM_90
              replace hv_69 := hv_69.le hM_90
              replace hz_71 := hz_71.le hM_90
              replace hv_75 := hv_75.le RG2_mono hM_90
              replace hv_79 := hv_79.le RG2_mono hM_90
              replace hv_83 := hv_83.le RG2_mono hM_90
              replace hv_87 := hv_87.le RG2_mono hM_90
              refine WL_guard_yes E rfl rfl ?_
              refine S_v E rfl (R_move E rfl) rfl ?_
              clear E a; intro a E
              refine WL_guard_yes E rfl rfl ?_
              refine S_x (X_pu E S rfl rfl rfl (laws_eqLists hv_91 hz_71) (Hp.le.refl _) ?_)
              clear E a S; rintro a _ w M_92 hM_92 rfl S E
              replace h0 := h0.le hM_92
              replace hb_1 := hM_92.2 _ _ hb_1
              replace hb_3 := hM_92.2 _ _ hb_3
              replace hz_8 := hz_8.le hM_92
              replace hv_10 := hv_10.le RG2_mono hM_92
              replace hv_12 := hv_12.le hM_92
              replace hz_33 := hz_33.le hM_92
              replace hv_35 := hv_35.le hM_92
              replace hv_63 := hv_63.le RG2_mono hM_92
              replace hz_65 := hz_65.le RG2_mono hM_92
              replace hv_69 := hv_69.le hM_92
              replace hz_71 := hz_71.le hM_92
              replace hv_75 := hv_75.le RG2_mono hM_92
              replace hv_79 := hv_79.le RG2_mono hM_92
              replace hv_83 := hv_83.le RG2_mono hM_92
              replace hv_87 := hv_87.le RG2_mono hM_92
              replace hv_91 := hv_91.le hM_92
              refine S_v E rfl (R_pickT E rfl rfl) rfl ?_
              clear E a; intro a E
              refine S_v E rfl (R_move E rfl) rfl ?_
              clear E a; intro a E
              have hc_93 : (decide (partL (fun x => keyAt kk1 kn1 x 0) l0 = (((uqS (fun x => keyAt kk1 kn1 x 0) (l0.take k)).1).take j2).map (fun key => l0.filter (fun x => decide (keyAt kk1 kn1 x 0 = key))))) = true := by (clear S E; first | (rw [grpS_one]; decide) | (simp; done) | decide | (first | refine dec_t ?_ | refine dec_f ?_ | skip); first | (rw [eall]; done) | (rw [eall]; rfl) | (rw [eprt]; rfl) | (rw [eprt]; done) | (rw [eall]; exact (grpS_self hr0).symm) | (rw [eall]; exact grpS_self hr0))
              replace E := E.val (t := 128) rfl hc_93
              replace E := E.val (t := 129) rfl hc_93
              replace E := E.val (t := 130) rfl hc_93
              refine WL_guard_yes E rfl rfl ?_
              refine S_v E rfl (R_loadM E rfl Try.isAgg22 S.imm (cellM_box hb_1)) rfl ?_
              clear E a; intro a E
              refine WL_guard_yes E rfl rfl ?_
              refine S_v E rfl (R_loadGM E rfl (Try.isAgg24 _) (Try.sizeOf24 _) S.imm hb_3) rfl ?_
              clear E a; intro a E
              refine WL_guard_yes E rfl rfl ?_
              refine S_x (X_pu E S rfl rfl rfl (impl_PartitionBySeq h0 (by omega) (by (first | omega | (simp; omega) | (simp; done) | (simp_all; omega) | grind))) (Hp.le.refl _) ?_)
              clear E a S; rintro a v_95 w M_94 hM_94 hv_95 S E
              replace h0 := h0.le hM_94
              replace hb_1 := hM_94.2 _ _ hb_1
              replace hb_3 := hM_94.2 _ _ hb_3
              replace hz_8 := hz_8.le hM_94
              replace hv_10 := hv_10.le RG2_mono hM_94
              replace hv_12 := hv_12.le hM_94
              replace hz_33 := hz_33.le hM_94
              replace hv_35 := hv_35.le hM_94
              replace hv_63 := hv_63.le RG2_mono hM_94
              replace hz_65 := hz_65.le RG2_mono hM_94
              replace hv_69 := hv_69.le hM_94
              replace hz_71 := hz_71.le hM_94
              replace hv_75 := hv_75.le RG2_mono hM_94
              replace hv_79 := hv_79.le RG2_mono hM_94
              replace hv_83 := hv_83.le RG2_mono hM_94
              replace hv_87 := hv_87.le RG2_mono hM_94
              replace hv_91 := hv_91.le hM_94
              refine WL_guard_yes E rfl rfl ?_
              refine S_v E rfl (R_move E rfl) rfl ?_
              clear E a; intro a E
              refine WL_guard_yes E rfl rfl ?_
              refine S_x (X_pu E S rfl rfl rfl (laws_eqLists hv_95 hz_71) (Hp.le.refl _) ?_)
              clear E a S; rintro a _ w M_96 hM_96 rfl S E
              replace h0 := h0.le hM_96
              replace hb_1 := hM_96.2 _ _ hb_1
              replace hb_3 := hM_96.2 _ _ hb_3
              replace hz_8 := hz_8.le hM_96
              replace hv_10 := hv_10.le RG2_mono hM_96
              replace hv_12 := hv_12.le hM_96
              replace hz_33 := hz_33.le hM_96
              replace hv_35 := hv_35.le hM_96
              replace hv_63 := hv_63.le RG2_mono hM_96
              replace hz_65 := hz_65.le RG2_mono hM_96
              replace hv_69 := hv_69.le hM_96
              replace hz_71 := hz_71.le hM_96
              replace hv_75 := hv_75.le RG2_mono hM_96
              replace hv_79 := hv_79.le RG2_mono hM_96
              replace hv_83 := hv_83.le RG2_mono hM_96
              replace hv_87 := hv_87.le RG2_mono hM_96
              replace hv_91 := hv_91.le hM_96
              replace hv_95 := hv_95.le hM_96
              refine S_v E rfl (R_pickT E rfl rfl) rfl ?_
              clear E a; intro a E
              refine S_v E rfl (R_assign E rfl) rfl ?_
              clear E a; intro a E
              refine WL_nil ?_
              refine T_n ?_
              refine WP_ret ?_
              exact F_ret1 E Try.results5 rfl ⟨_, rfl, M_96, (hM_2.trans (hM_4.trans (hM_7.trans (hM_9.trans (hM_13.trans (hM_14.trans (hM_16.trans (hM_19.trans (hM_32.trans (hM_34.trans (hM_38.trans (hM_51.trans (hM_62.trans (hM_64.trans (hM_66.trans (hM_68.trans (hM_70.trans (hM_72.trans (hM_74.trans (hM_76.trans (hM_78.trans (hM_80.trans (hM_82.trans (hM_84.trans (hM_86.trans (hM_88.trans (hM_90.trans (hM_92.trans (hM_94.trans hM_96))))))))))))))))))))))))))))), (congrArg Value.bool (by (clear S E; first | (rw [grpS_one]; decide) | (simp; done) | decide | (first | refine dec_t ?_ | refine dec_f ?_ | skip); first | (rw [eall]; done) | (rw [eall]; rfl) | (rw [eprt]; rfl) | (rw [eprt]; done) | (rw [eall]; exact (grpS_self hr0).symm) | (rw [eall]; exact grpS_self hr0)))), S⟩

end Go.Proofs.Ytpncgdecfhfjmaa.wFnGroups
