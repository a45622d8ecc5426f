/- Walks through the functions that laws.FnWindows reaches: what each computes; no conditions beyond what each theorem states. -/
import Derived.Test.YtbdacnblipmapaaWFnWindowsa
set_option linter.unusedVariables false
set_option linter.unusedSimpArgs false
namespace Go.Proofs.Ytbdacnblipmapaa.wFnWindows
open Go Go.Sl
set_option maxRecDepth 100000 in
set_option maxHeartbeats 4000000 in
theorem slices_Values1 {M : Hp} {v0 : Value} {l0 : List Int} (h0 : RdI M v0 l0){bx1 : Nat} (hbx1 : M bx1 = some (.cells #[v0] 24)) :
    SeqV Try.prog (.func (.func 132) #[] #[.pointer (some ⟨bx1, 0, none⟩)]) M (RInt) l0 := by
  refine SeqV_enter Try.func132 rfl Try.ntmps132 rfl Try.call132 ?_
  intro y J X a w M1 c H hJM hM1 hY hJ S E
  replace hbx1 := hM1.2 _ _ hbx1
  replace h0 := h0.le hM1
  have b0 := h0.bound
  refine WP_seq ?_
  refine WP_region ?_
  refine S_v E rfl (R_loadM E rfl Try.isAgg24 S.imm (cellM_box hbx1)) rfl ?_
  clear E a; intro a E
  refine S_v E rfl (R_lenV E rfl T24 h0.len) rfl ?_
  clear E a; intro a E
  refine S_v E rfl (R_move E rfl) rfl ?_
  clear E a; intro a E
  refine WL_nil ?_
  refine T_n ?_
  refine WP_block ?_
  refine WP_loop (γ := Nat) (fun (k : Nat) a w => ∃ (M_1 : Hp) (cL0 : HProp), Hp.le M1 M_1 ∧ St w M_1 (mks [] :: cL0 :: H) ∧ Env a 16 (([] : List Nat).map mk) [(0, y), (5, v0), (6, .int .i64 (((l0).length : Nat) : Int)), (7, .int .i64 ((k : Nat) : Int))] ∧ (k ≤ (l0).length) ∧ J (l0.take k) M_1 cL0) (fun k => ((l0).length) - k) 0 ⟨M1, _, Hp.le.refl _, S, E.keep ⟨rfl, rfl, rfl, rfl, trivial⟩, by ((try clear S); (try clear E); first | assumption | omega | rfl | (simp; done) | (simp_all; done) | (simp [List.take_add_one, *]; done) | grind [List.take_add_one]), J_eq hJ (by ((try clear S); (try clear E); first | assumption | omega | rfl | (simp; done) | (simp_all; done) | (simp [List.take_add_one, *]; done) | grind [List.take_add_one]))⟩ ?_
  try clear E
  try clear S
  try clear a
  try clear w
  rintro k a w ⟨M_1, cL0, hM_1, S, E, hL0_0, hJ⟩
  replace hbx1 := hM_1.2 _ _ hbx1
  replace h0 := h0.le hM_1
  refine WP_seq ?_
  refine WP_region ?_
  refine S_v E rfl (R_lss E rfl rfl) rfl ?_
  clear E a; intro a E
  refine WL_nil ?_
  refine T_n ?_
  refine WP_seq ?_
  refine WP_cond E rfl (fun hc_2 => ?_) (fun hc_2 => ?_)
  · replace hc_2 := of_decide_eq_true hc_2
    refine WP_skip ?_
    refine T_n ?_
    refine WP_seq ?_
    refine WP_block ?_
    refine WP_seq ?_
    refine WP_region ?_
    obtain ⟨x_3, hx_3⟩ : ∃ x, (l0)[k]? = some x := ⟨_, List.getElem?_eq_getElem (by first | omega | (simp; done) | (simp; omega) | (simp_all; omega))⟩
    obtain ⟨p_4, hp_4, qp_4⟩ := h0.at hx_3
    refine S_v E rfl (R_idx E rfl rfl T24 hp_4 rfl) rfl ?_
    clear E a; intro a E
    refine S_v E rfl (R_loadM E rfl Try.isAgg3 S.imm qp_4) rfl ?_
    clear E a; intro a E
    refine S_v E rfl (R_assign E rfl) rfl ?_
    clear E a; intro a E
    refine WL_nil ?_
    refine T_n ?_
    refine WP_seq ?_
    refine WP_region ?_
    refine S_v E rfl (R_move E rfl) rfl ?_
    clear E a; intro a E
    refine S_v E rfl (R_move E rfl) rfl ?_
    clear E a; intro a E
    replace S := S.front1
    refine S_x (X_yield (x := x_3) E S rfl rfl rfl hY hM_1 (by (first | (simp; done) | exact List.prefix_refl _ | (rw [pre_take (by assumption)]; exact List.take_prefix _ _) | exact pre_take_lt (by assumption))) rfl hJ ?_)
    clear E a S; rintro a w M_5 c_6 go_7 hM_5 hJ S E
    replace hbx1 := hM_5.2 _ _ hbx1
    replace h0 := h0.le hM_5
    cases go_7
    · replace hJ : X (l0.take k ++ [x_3]) M_5 c_6 := hJ
      refine S_v E rfl (R_not E rfl) rfl ?_
      clear E a; intro a E
      refine WL_nil ?_
      refine T_n ?_
      refine WP_condT E rfl rfl ?_
      refine WP_ret ?_
      refine B_r ?_
      refine T_r ?_
      refine T_r ?_
      refine B_r ?_
      replace S := S.front1
      exact F_retM0 E S Try.results132 (fun w S => ⟨_, rfl, M_5, _, (hM_1.trans hM_5), .inr ⟨(l0.take k ++ [x_3]), (by first | assumption | ((first | (simp; done) | exact List.prefix_refl _ | (rw [pre_take (by assumption)]; exact List.take_prefix _ _) | exact pre_take_lt (by assumption)))), hJ⟩, S⟩)
    · replace hJ : J (l0.take k ++ [x_3]) M_5 c_6 := hJ
      refine S_v E rfl (R_not E rfl) rfl ?_
      clear E a; intro a E
      refine WL_nil ?_
      refine T_n ?_
      refine WP_condF E rfl rfl ?_
      refine WP_skip ?_
      refine B_n ?_
      refine T_n ?_
      refine WP_region ?_
      refine S_v E rfl (R_addx (m := ((k + 1 : Nat) : Int)) E rfl rfl (by omega) (by omega)) rfl ?_
      clear E a; intro a E
      refine S_v E rfl (R_move E rfl) rfl ?_
      clear E a; intro a E
      refine WL_nil ?_
      refine T_n ?_
      replace S := S.front1
      exact ⟨k + 1, ⟨M_5, _, (hM_1.trans hM_5), S, E.keep ⟨rfl, rfl, rfl, rfl, trivial⟩, by ((try clear S); (try clear E); first | assumption | omega | rfl | (simp; done) | (simp_all; done) | (simp [List.take_add_one, *]; done) | grind [List.take_add_one]), J_eq hJ (by ((try clear S); (try clear E); first | assumption | omega | rfl | (simp; done) | (simp_all; done) | (simp [List.take_add_one, *]; done) | grind [List.take_add_one]))⟩, by omega⟩
  · replace hc_2 := of_decide_eq_false hc_2
    refine WP_exit ?_
    refine T_x ?_
    refine T_x ?_
    refine B_x ?_
    refine F_nrm ?_
    replace S := S.front1
    replace S := S.front1
    have hpre : l0.take k = l0 := by ((try clear S); (try clear E); first | rfl | (simp; done) | (simp_all; done) | grind [List.take_add_one])
    rw [hpre] at hJ
    exact F_retM0 E S Try.results132 (fun w S => ⟨_, rfl, M_1, _, hM_1, .inl hJ, S⟩)

set_option maxRecDepth 100000 in
set_option maxHeartbeats 4000000 in
theorem slices_Values {M : Hp} {v0 : Value} {l0 : List Int} (h0 : RdI M v0 l0) :
    Pu Try.prog (.func (.func 88) #[] #[]) M [v0] (fun r M' => SeqV Try.prog r M' RInt l0) := by
  refine Pu_enter Try.func88 rfl Try.ntmps88 rfl Try.call88 ?_
  intro a w M1 H hM1 S E
  replace h0 := h0.le hM1
  have b0 := h0.bound
  refine WP_seq ?_
  refine WP_region ?_
  refine S_x (X_box (cs := #[v0]) E S rfl rfl (cells_one (RdS.one' h0)) ?_)
  clear E a S; rintro a w b_1 E S
  obtain ⟨M_2, hM_2, hb_1, S⟩ := S.freezeB
  replace h0 := h0.le hM_2
  refine S_v E rfl (R_assign E rfl) rfl ?_
  clear E a; intro a E
  refine WL_nil ?_
  refine T_n ?_
  refine WP_seq ?_
  refine WP_region ?_
  refine S_v E rfl (R_makeFunc E rfl rfl) rfl ?_
  clear E a; intro a E
  refine S_v E rfl (R_assign E rfl) rfl ?_
  clear E a; intro a E
  refine WL_nil ?_
  refine T_n ?_
  refine WP_ret ?_
  exact F_ret1 E Try.results88 rfl ⟨_, rfl, M_2, hM_2, (SeqV_eq (slices_Values1 h0 hb_1) (by ((try clear S); (try clear E); first | rfl | (simp; done) | (simp_all; done) | grind [List.take_add_one]))), S⟩

set_option maxRecDepth 100000 in
set_option maxHeartbeats 4000000 in
theorem it_Sliding1 {M : Hp} {v0 : Value} {l0 : List Int} (h0 : SeqV Try.prog v0 M (RInt) l0) {n1 n2 : Nat} (hn : 0 < n1) (hs : 0 < n2) (hb1 : n1 ≤ 1000000) (hb2 : n2 ≤ 1000000) {bx1 bx2 bx3 : Nat} (hbx1 : M bx1 = some (.cells #[.int .i64 (n1 : Int)] 3)) (hbx2 : M bx2 = some (.cells #[.int .i64 (n2 : Int)] 3)) (hbx3 : M bx3 = some (.cells #[v0] 82)) :
    SeqV Try.prog (.func (.func 144) #[] #[.pointer (some ⟨bx1, 0, none⟩), .pointer (some ⟨bx2, 0, none⟩), .pointer (some ⟨bx3, 0, none⟩)]) M (RSl 1 RInt) (sliL n1 n2 l0) := by
  refine SeqV_enter Try.func144 rfl Try.ntmps144 rfl Try.call144 ?_
  intro y J X a w M1 c H hJM hM1 hY hJ S E
  replace h0 := h0.le hM1
  replace hbx1 := hM1.2 _ _ hbx1
  replace hbx2 := hM1.2 _ _ hbx2
  replace hbx3 := hM1.2 _ _ hbx3
  refine WP_seq ?_
  refine WP_region ?_
  refine S_x (X_box (cs := #[y]) E S rfl rfl (cells_one hY.1) ?_)
  clear E a S; rintro a w b_1 E S
  obtain ⟨M_2, hM_2, hb_1, S⟩ := S.freezeB
  replace h0 := h0.le hM_2
  replace hbx1 := hM_2.2 _ _ hbx1
  replace hbx2 := hM_2.2 _ _ hbx2
  replace hbx3 := hM_2.2 _ _ hbx3
  replace hJ := hJM _ _ _ _ hM_2 hJ
  refine WL_nil ?_
  refine T_n ?_
  refine WP_seq ?_
  refine WP_region ?_
  refine S_v E rfl (R_loadM E rfl Try.isAgg3 S.imm (cellM_box hbx1)) rfl ?_
  clear E a; intro a E
  refine S_x (X_makeN (k := n1) E S rfl rfl rfl T24 (by omega) (by omega) (by omega) (by omega) ?_)
  clear E a S; rintro a w v_3 E S
  replace S := S.madeI
  refine S_x (X_alloc (cs := #[.slice none 0 0]) E S rfl Try.zeroValue24 rfl ?_)
  clear E a S; rintro a w b_4 E S
  replace S := S.front1
  have ho_5 := S.oneI
  replace S := S.front1
  refine S_x0 (X_store E S rfl rfl (Try.sizeOf24 _) ho_5 ?_)
  clear E a S; rintro a w E S
  refine WL_nil ?_
  refine T_n ?_
  refine WP_seq ?_
  refine WP_region ?_
  refine S_x (X_alloc (cs := #[.int .i64 0]) E S rfl Try.zeroValue3 rfl ?_)
  clear E a S; rintro a w b_6 E S
  refine S_x0 (X_store E S rfl rfl (Try.sizeOf3 _) rfl ?_)
  clear E a S; rintro a w E S
  refine WL_nil ?_
  refine T_n ?_
  refine WP_seq ?_
  refine WP_region ?_
  refine S_v E rfl (R_loadM E rfl Try.isAgg3 S.imm (cellM_box hbx2)) rfl ?_
  clear E a; intro a E
  refine S_v E rfl (R_loadM E rfl Try.isAgg3 S.imm (cellM_box hbx1)) rfl ?_
  clear E a; intro a E
  refine S_v E rfl (R_subx (m := ((n2 : Nat) : Int) - ((n1 : Nat) : Int)) E rfl rfl (by omega) (by omega)) rfl ?_
  clear E a; intro a E
  refine S_x (X_alloc (cs := #[.int .i64 0]) E S rfl Try.zeroValue3 rfl ?_)
  clear E a S; rintro a w b_7 E S
  refine S_x0 (X_store E S rfl rfl (Try.sizeOf3 _) rfl ?_)
  clear E a S; rintro a w E S
  refine WL_nil ?_
  refine T_n ?_
  refine WP_block ?_
  refine WP_seq ?_
  refine WP_region ?_
  refine S_v E rfl (R_load E rfl (Try.isAgg3 _) (cell_blk (S.mem (.head _)))) rfl ?_
  clear E a; intro a E
  refine S_v E rfl (R_eql E rfl rfl) rfl ?_
  clear E a; intro a E
  refine S_v E rfl (R_assign E rfl) rfl ?_
  clear E a; intro a E
  refine WL_nil ?_
  refine T_n ?_
  refine WP_cond E rfl (fun hc_8 => ?_) (fun hc_8 => ?_)
  · replace hc_8 := of_decide_eq_true hc_8
    refine WP_seq ?_
    refine WP_region ?_
    refine S_v E rfl (R_loadM E rfl Try.isAgg82 S.imm (cellM_box hbx3)) rfl ?_
    clear E a; intro a E
    refine WL_nil ?_
    refine T_n ?_
    refine WP_block ?_
    replace S := S.front2
    replace S := S.front5
    replace S := S.front3
    replace S := S.front3
    replace S := S.front4
    replace S := S.front4
    replace E := E.keep (l' := [(1, .pointer (some ⟨bx1, 0, none⟩)), (4, .pointer (some ⟨b_1, 0, none⟩)), (5, .pointer (some ⟨b_4, 0, none⟩)), (6, .pointer (some ⟨b_6, 0, none⟩)), (41, v0)]) ⟨rfl, rfl, rfl, rfl, rfl, trivial⟩
    replace S := S.front4
    replace S := S.front4
    replace S := S.blk_int (j := (((slS n1 n2 (([] : List Int))).cnt : Nat) : Int)) (by (first | rfl | (rw [sl_part (hsl.2.2.1 (by omega)) (by omega)]; done) | (rw [sl_le (by omega) (hsl.2.2.1 (by omega)) (by omega)]; show (_ : Int) = _; omega) | (rw [sl_le (by omega) (hsl.2.2.1 (by omega)) (by omega)]; simp; omega) | (rw [sl_part (hsl.2.2.1 (by omega)) (by omega)]; simp; done)))
    replace S := S.front4
    replace S := S.front4
    replace S := S.re1 (l' := (slS n1 n2 (([] : List Int))).buf) (by first | rfl | (rw [sl_part (hsl.2.2.1 (by omega)) (by omega)]; done) | (rw [sl_le (by omega) (hsl.2.2.1 (by omega)) (by omega)]; exact sl_same (by rw [List.length_set]; exact hsl.1) (by omega)) | (rw [sl_le (by omega) (hsl.2.2.1 (by omega)) (by omega)]; simp only [List.length_set, hsl.1]; done))
    replace S := S.front4
    have S0 := S; clear S; have S := St.pack [blk b_4 (.cells #[v_3] 24), OwnI 3 v_3 ((slS n1 n2 (([] : List Int))).buf), blk b_7 (.cells #[.int .i64 (((n2 : Nat) : Int) - ((n1 : Nat) : Int))] 3), blk b_6 (.cells #[.int .i64 (((slS n1 n2 (([] : List Int))).cnt : Nat) : Int)] 3), c] S0; clear S0
    refine WP_range (RV := RInt) (l := l0) (fun pre M c => ∃ (u5 : Value) (c0 : HProp), c = bigs [blk b_4 (.cells #[u5] 24), OwnI 3 u5 ((slS n1 n2 (pre)).buf), blk b_7 (.cells #[.int .i64 (((n2 : Nat) : Int) - ((n1 : Nat) : Int))] 3), blk b_6 (.cells #[.int .i64 (((slS n1 n2 (pre)).cnt : Nat) : Int)] 3), c0] ∧ (J ((slS n1 n2 (pre)).out) M c0)) (fun cd pre M c => cd = .ret ∧ ∃ z, z <+: (sliL n1 n2 l0) ∧ X z M c) E S rfl h0 (Hp.le.refl _) (fun _ _ _ h => by rw [h]; rfl) (by decide) (by rintro _ M M' c hM ⟨u5, c0, rfl, f0⟩; exact ⟨_, _, rfl, hJM _ _ _ _ hM f0⟩) ⟨_, _, rfl, J_eq hJ (by rfl)⟩ ?_ ?_ ?_
    clear E S
    · rintro lb_10 rec_11 pre xa _ a w M_9 _ G hM_9 hp_12 rfl ⟨u5, c0, rfl, f0⟩ E S
      replace E : Env a 86 [] [(42, .int .i64 xa), (1, .pointer (some ⟨bx1, 0, none⟩)), (4, .pointer (some ⟨b_1, 0, none⟩)), (5, .pointer (some ⟨b_4, 0, none⟩)), (6, .pointer (some ⟨b_6, 0, none⟩)), (41, v0)] := E
      replace S := S.swap.unpack
      have hq0 := prefix_lt hp_12
      replace h0 := h0.le hM_9
      replace hbx1 := hM_9.2 _ _ hbx1
      replace hbx2 := hM_9.2 _ _ hbx2
      replace hbx3 := hM_9.2 _ _ hbx3
      replace hb_1 := hM_9.2 _ _ hb_1
      have hsl := sl_facts hn hs pre
      refine WP_region ?_
      refine S_v E rfl (R_load E rfl (Try.isAgg24 _) (cell_blk (S.mem (.head _)))) rfl ?_
      clear E a; intro a E
      refine S_v E rfl (R_load E rfl (Try.isAgg3 _) (cell_blk (S.mem (.tail _ (.tail _ (.tail _ (.head _))))))) rfl ?_
      clear E a; intro a E
      replace S := S.front1
      obtain ⟨p_14, hp_14⟩ := S.ptrC (k := (slS n1 n2 (pre)).cnt) (by (first | omega | (simp; omega) | (rw [hsl.1]; omega) | (rw [List.length_set, hsl.1]; omega)))
      refine S_v E rfl (R_idx E rfl rfl T24 hp_14 rfl) rfl ?_
      clear E a; intro a E
      refine S_x0 (X_storeI E S rfl rfl (Try.sizeOf3 _) hp_14 ?_)
      clear E a S; rintro a w E S
      refine WL_nil ?_
      refine T_n ?_
      replace S := S.front5
      refine rb S ?_
      clear S; intro w S
      refine WP_block ?_
      refine WP_seq ?_
      refine WP_region ?_
      refine S_v E rfl (R_load E rfl (Try.isAgg3 _) (cell_blk (S.mem (.tail _ (.tail _ (.tail _ (.tail _ (.head _)))))))) rfl ?_
      clear E a; intro a E
      refine S_v E rfl (R_addx (m := (((slS n1 n2 (pre)).cnt + 1 : Nat) : Int)) E rfl rfl (by omega) (by omega)) rfl ?_
      clear E a; intro a E
      replace S := S.front4
      refine S_x0 (X_store E S rfl rfl (Try.sizeOf3 _) rfl ?_)
      clear E a S; rintro a w E S
      refine WL_nil ?_
      refine T_n ?_
      refine WP_seq ?_
      refine WP_region ?_
      refine S_v E rfl (R_load E rfl (Try.isAgg3 _) (cell_blk (S.mem (.head _)))) rfl ?_
      clear E a; intro a E
      refine S_v E rfl (R_loadM E rfl Try.isAgg3 S.imm (cellM_box hbx1)) rfl ?_
      clear E a; intro a E
      refine S_v E rfl (R_eql E rfl rfl) rfl ?_
      clear E a; intro a E
      refine WL_nil ?_
      refine T_n ?_
      refine WP_cond E rfl (fun hc_15 => ?_) (fun hc_15 => ?_)
      · replace hc_15 := of_decide_eq_true hc_15
        refine WP_seq ?_
        refine WP_seq ?_
        have hbx1k15 := hbx1
        have hb_1k15 := hb_1
        replace S := S.mono_heap (w' := World.drew _) rfl
        refine WP_drawn (C := fun x w => agree M_9 w ∧ (x = 3 → w.heap[b_4]? = some (.cells #[u5] 24))) (bf := (fun i => bif Nat.beq i 2 then [] else bif Nat.beq i 4 then [3] else bif Nat.beq i 5 then [3] else [])) [0, 1, 3, 6] [0, 1, 3, 2, 4, 5, 6] Try.mixed (by kernel_rfl) (fun x hq => ⟨S.imm, fun _ => (S.mem (.tail _ (.tail _ (.tail _ (.head _)))))⟩) ?_
        refine D_v E rfl rfl rfl (fun w hC => (R_loadM E rfl Try.isAgg133 hC.1 (cellM_box hb_1k15))) ?_
        clear E a; intro a E
        refine D_v E rfl rfl rfl (fun w hC => (R_loadM E rfl Try.isAgg3 hC.1 (cellM_box hbx1k15))) ?_
        clear E a; intro a E
        refine D_v E rfl rfl rfl (fun w hC => (R_load E rfl (Try.isAgg24 _) (cell_blk (hC.2 rfl)))) ?_
        clear E a; intro a E
        refine D_x rfl rfl rfl (X_make0 (k := n1) E S rfl rfl rfl T24 rfl (by omega) (by omega) (by omega) ?_)
        clear E a S; rintro a w v_16 E S
        replace S := S.made0
        refine ⟨fun x hq hb => ⟨(agree_le (Hp.le.refl _) S.imm), (fun _ => (S.mem (.tail _ (.tail _ (.tail _ (.tail _ (.head _)))))))⟩, ?_⟩
        replace S := S.front3
        refine D_x rfl rfl rfl (X_appendO (xs := ([] : List Int)) (ys := ((slS n1 n2 (pre)).buf).set ((slS n1 n2 (pre)).cnt) xa) E S rfl rfl rfl T24 (by (first | (simp; omega) | (simp [hsl.1]; omega))) ?_)
        clear E a S; rintro a w v_17 E S
        refine ⟨fun x hq hb => ⟨(agree_le (Hp.le.refl _) S.imm), (fun e => by subst e; exact absurd hb (by decide))⟩, ?_⟩
        have S0 := S; clear S
        obtain ⟨M_18, hM_18, hz_19, S⟩ := S0.freezeI (by (first | omega | (simp; omega) | (simp [hsl.1]; omega)))
        clear S0
        replace h0 := h0.le hM_18
        replace hbx1 := hM_18.2 _ _ hbx1
        replace hbx2 := hM_18.2 _ _ hbx2
        replace hbx3 := hM_18.2 _ _ hbx3
        replace hb_1 := hM_18.2 _ _ hb_1
        replace f0 := hJM _ _ _ _ hM_18 f0
        replace S := S.front5
        refine D_x rfl rfl rfl (X_yield (x := [] ++ (((slS n1 n2 (pre)).buf).set ((slS n1 n2 (pre)).cnt) xa)) E S rfl rfl rfl hY (hM_2.trans (hM_9.trans hM_18)) (by first | exact sl_tell hn hs (by assumption) (hsl.2.2.1 (by omega)) (by omega) | exact sl_tell hn hs (by assumption) (by omega) (by omega)) ⟨_, rfl, hz_19⟩ f0 ?_)
        clear E a S; rintro a w M_20 c_21 go_22 hM_20 f0 S E
        replace h0 := h0.le hM_20
        replace hbx1 := hM_20.2 _ _ hbx1
        replace hbx2 := hM_20.2 _ _ hbx2
        replace hbx3 := hM_20.2 _ _ hbx3
        replace hb_1 := hM_20.2 _ _ hb_1
        replace hz_19 := hz_19.le hM_20
        refine ⟨fun x hq hb => ⟨(agree_le (hM_18.trans hM_20) S.imm), (fun e => by subst e; exact absurd hb (by decide))⟩, ?_⟩
        cases go_22
        · replace f0 : X ((slS n1 n2 (pre)).out ++ [[] ++ (((slS n1 n2 (pre)).buf).set ((slS n1 n2 (pre)).cnt) xa)]) M_20 c_21 := f0
          refine D_v E rfl rfl rfl (fun w hC => (R_not E rfl)) ?_
          clear E a; intro a E
          refine D_end (NoP_n ?_)
          refine T_n ?_
          refine WP_condT E rfl rfl ?_
          refine WP_ret ?_
          refine T_r ?_
          refine B_r ?_
          replace S := S.front1
          replace S := S.drop
          replace S := S.front1
          replace S := S.drop
          replace S := S.front2
          replace S := S.drop
          replace S := S.front2
          replace S := S.drop
          replace S := S.front1
          exact ⟨M_20, _, (hM_18.trans hM_20), ⟨rfl, _, (by first | assumption | (first | exact sl_tell hn hs (by assumption) (hsl.2.2.1 (by omega)) (by omega) | exact sl_tell hn hs (by assumption) (by omega) (by omega)) | ((first | (simp; done) | exact List.prefix_refl _ | (rw [pre_take (by assumption)]; exact List.take_prefix _ _) | exact pre_take_lt (by assumption)))), f0⟩, S⟩
        · replace f0 : J ((slS n1 n2 (pre)).out ++ [[] ++ (((slS n1 n2 (pre)).buf).set ((slS n1 n2 (pre)).cnt) xa)]) M_20 c_21 := f0
          refine D_v E rfl rfl rfl (fun w hC => (R_not E rfl)) ?_
          clear E a; intro a E
          refine D_end (NoP_n ?_)
          refine T_n ?_
          refine WP_condF E rfl rfl ?_
          refine WP_skip ?_
          refine T_n ?_
          refine WP_region ?_
          replace S := S.front2
          refine S_x0 (X_store E S rfl rfl (Try.sizeOf3 _) rfl ?_)
          clear E a S; rintro a w E S
          refine WL_nil ?_
          refine B_n ?_
          replace S := S.front1
          replace S := S.front1
          replace S := S.front5
          replace S := S.front3
          replace S := S.front5
          replace S := S.front4
          replace S := S.front4
          replace S := S.blk_int (j := (((slS n1 n2 ((pre ++ [xa]))).cnt : Nat) : Int)) (by (first | rfl | (rw [sl_part (hsl.2.2.1 (by omega)) (by omega)]; done) | (rw [sl_le (by omega) (hsl.2.2.1 (by omega)) (by omega)]; show (_ : Int) = _; omega) | (rw [sl_le (by omega) (hsl.2.2.1 (by omega)) (by omega)]; simp; omega) | (rw [sl_part (hsl.2.2.1 (by omega)) (by omega)]; simp; done)))
          replace S := S.front4
          replace S := S.front4
          replace S := S.re1 (l' := (slS n1 n2 ((pre ++ [xa]))).buf) (by first | rfl | (rw [sl_part (hsl.2.2.1 (by omega)) (by omega)]; done) | (rw [sl_le (by omega) (hsl.2.2.1 (by omega)) (by omega)]; exact sl_same (by rw [List.length_set]; exact hsl.1) (by omega)) | (rw [sl_le (by omega) (hsl.2.2.1 (by omega)) (by omega)]; simp only [List.length_set, hsl.1]; done))
          replace S := S.front4
          have S0 := S; clear S; have S := (St.pack [blk b_4 (.cells #[u5] 24), OwnI 3 u5 ((slS n1 n2 ((pre ++ [xa]))).buf), blk b_7 (.cells #[.int .i64 (((n2 : Nat) : Int) - ((n1 : Nat) : Int))] 3), blk b_6 (.cells #[.int .i64 (((slS n1 n2 ((pre ++ [xa]))).cnt : Nat) : Int)] 3), c_21] S0).swap; clear S0
          exact ⟨M_20, _, (hM_18.trans hM_20), ⟨_, _, rfl, J_eq f0 (by (first | (rw [sl_part (hsl.2.2.1 (by omega)) (by omega)]; done) | (rw [sl_le (by omega) (hsl.2.2.1 (by omega)) (by omega)]; rfl) | (rw [sl_le (by omega) (hsl.2.2.1 (by omega)) (by omega)]; simp; done)))⟩, S⟩
      · replace hc_15 := of_decide_eq_false hc_15
        refine WP_skip ?_
        refine B_n ?_
        replace S := S.front5
        replace S := S.front1
        replace S := S.front5
        replace S := S.front4
        replace S := S.front5
        replace S := S.front4
        replace S := S.front4
        replace S := S.blk_int (j := (((slS n1 n2 ((pre ++ [xa]))).cnt : Nat) : Int)) (by (first | rfl | (rw [sl_part (hsl.2.2.1 (by omega)) (by omega)]; done) | (rw [sl_le (by omega) (hsl.2.2.1 (by omega)) (by omega)]; show (_ : Int) = _; omega) | (rw [sl_le (by omega) (hsl.2.2.1 (by omega)) (by omega)]; simp; omega) | (rw [sl_part (hsl.2.2.1 (by omega)) (by omega)]; simp; done)))
        replace S := S.front4
        replace S := S.front4
        replace S := S.re1 (l' := (slS n1 n2 ((pre ++ [xa]))).buf) (by first | rfl | (rw [sl_part (hsl.2.2.1 (by omega)) (by omega)]; done) | (rw [sl_le (by omega) (hsl.2.2.1 (by omega)) (by omega)]; exact sl_same (by rw [List.length_set]; exact hsl.1) (by omega)) | (rw [sl_le (by omega) (hsl.2.2.1 (by omega)) (by omega)]; simp only [List.length_set, hsl.1]; done))
        replace S := S.front4
        have S0 := S; clear S; have S := (St.pack [blk b_4 (.cells #[u5] 24), OwnI 3 u5 ((slS n1 n2 ((pre ++ [xa]))).buf), blk b_7 (.cells #[.int .i64 (((n2 : Nat) : Int) - ((n1 : Nat) : Int))] 3), blk b_6 (.cells #[.int .i64 (((slS n1 n2 ((pre ++ [xa]))).cnt : Nat) : Int)] 3), c0] S0).swap; clear S0
        exact ⟨M_9, _, (Hp.le.refl _), ⟨_, _, rfl, J_eq f0 (by (first | (rw [sl_part (hsl.2.2.1 (by omega)) (by omega)]; done) | (rw [sl_le (by omega) (hsl.2.2.1 (by omega)) (by omega)]; rfl) | (rw [sl_le (by omega) (hsl.2.2.1 (by omega)) (by omega)]; simp; done)))⟩, S⟩
    · rintro a w M_23 _ D_24 hM_23 ⟨u5, c0, rfl, f0⟩ S E
      replace S := S.unpack
      replace h0 := h0.le hM_23
      replace hbx1 := hM_23.2 _ _ hbx1
      replace hbx2 := hM_23.2 _ _ hbx2
      replace hbx3 := hM_23.2 _ _ hbx3
      replace hb_1 := hM_23.2 _ _ hb_1
      refine B_n ?_
      refine B_n ?_
      refine F_nrm ?_
      replace S := S.drop
      replace S := S.drop
      replace S := S.drop
      replace S := S.drop
      replace S := S.front1
      have hpre : (slS n1 n2 (l0)).out = sliL n1 n2 l0 := by (exact sl_out hn hs _)
      rw [hpre] at f0
      exact F_retM0 E S Try.results144 (fun w S => ⟨_, rfl, M_23, _, (hM_2.trans hM_23), .inl f0, S⟩)
    · rintro a w M_25 c_ D_26 p_27 _ hM_25 hp_28 ⟨rfl, z_, hz_, f0⟩ S E
      replace h0 := h0.le hM_25
      replace hbx1 := hM_25.2 _ _ hbx1
      replace hbx2 := hM_25.2 _ _ hbx2
      replace hbx3 := hM_25.2 _ _ hbx3
      replace hb_1 := hM_25.2 _ _ hb_1
      refine WP_ret ?_
      refine B_r ?_
      refine B_r ?_
      replace S := S.front1
      exact F_retM0 E S Try.results144 (fun w S => ⟨_, rfl, M_25, _, (hM_2.trans hM_25), .inr ⟨z_, (by first | assumption | ((first | (simp; done) | exact List.prefix_refl _ | (rw [pre_take (by assumption)]; exact List.take_prefix _ _) | exact pre_take_lt (by assumption)))), f0⟩, S⟩)
  · replace hc_8 := of_decide_eq_false hc_8
    refine WP_seq ?_
    refine WP_region ?_
    refine S_v E rfl (R_load E rfl (Try.isAgg3 _) (cell_blk (S.mem (.head _)))) rfl ?_
    clear E a; intro a E
    refine S_v E rfl (R_lss E rfl rfl) rfl ?_
    clear E a; intro a E
    refine S_v E rfl (R_assign E rfl) rfl ?_
    clear E a; intro a E
    refine WL_nil ?_
    refine T_n ?_
    refine WP_cond E rfl (fun hc_29 => ?_) (fun hc_29 => ?_)
    · replace hc_29 := of_decide_eq_true hc_29
      refine WP_seq ?_
      refine WP_region ?_
      refine S_v E rfl (R_loadM E rfl Try.isAgg82 S.imm (cellM_box hbx3)) rfl ?_
      clear E a; intro a E
      refine WL_nil ?_
      refine T_n ?_
      refine WP_block ?_
      replace S := S.front2
      replace S := S.front5
      replace S := S.front3
      replace S := S.front3
      replace S := S.front4
      replace S := S.front4
      replace E := E.keep (l' := [(1, .pointer (some ⟨bx1, 0, none⟩)), (2, .pointer (some ⟨bx2, 0, none⟩)), (4, .pointer (some ⟨b_1, 0, none⟩)), (5, .pointer (some ⟨b_4, 0, none⟩)), (6, .pointer (some ⟨b_6, 0, none⟩)), (61, v0)]) ⟨rfl, rfl, rfl, rfl, rfl, rfl, trivial⟩
      replace S := S.front4
      replace S := S.front4
      replace S := S.blk_int (j := (((slS n1 n2 (([] : List Int))).cnt : Nat) : Int)) (by (first | rfl | (rw [sl_part (hsl.2.2.1 (by omega)) (by omega)]; done) | (rw [sl_le (by omega) (hsl.2.2.1 (by omega)) (by omega)]; show (_ : Int) = _; omega) | (rw [sl_le (by omega) (hsl.2.2.1 (by omega)) (by omega)]; simp; omega) | (rw [sl_part (hsl.2.2.1 (by omega)) (by omega)]; simp; done)))
      replace S := S.front4
      replace S := S.front4
      replace S := S.re1 (l' := (slS n1 n2 (([] : List Int))).buf) (by first | rfl | (rw [sl_part (hsl.2.2.1 (by omega)) (by omega)]; done) | (rw [sl_le (by omega) (hsl.2.2.1 (by omega)) (by omega)]; exact sl_same (by rw [List.length_set]; exact hsl.1) (by omega)) | (rw [sl_le (by omega) (hsl.2.2.1 (by omega)) (by omega)]; simp only [List.length_set, hsl.1]; done))
      replace S := S.front4
      have S0 := S; clear S; have S := St.pack [blk b_4 (.cells #[v_3] 24), OwnI 3 v_3 ((slS n1 n2 (([] : List Int))).buf), blk b_7 (.cells #[.int .i64 (((n2 : Nat) : Int) - ((n1 : Nat) : Int))] 3), blk b_6 (.cells #[.int .i64 (((slS n1 n2 (([] : List Int))).cnt : Nat) : Int)] 3), c] S0; clear S0
      refine WP_range (RV := RInt) (l := l0) (fun pre M c => ∃ (u5 : Value) (c1 : HProp), c = bigs [blk b_4 (.cells #[u5] 24), OwnI 3 u5 ((slS n1 n2 (pre)).buf), blk b_7 (.cells #[.int .i64 (((n2 : Nat) : Int) - ((n1 : Nat) : Int))] 3), blk b_6 (.cells #[.int .i64 (((slS n1 n2 (pre)).cnt : Nat) : Int)] 3), c1] ∧ (J ((slS n1 n2 (pre)).out) M c1)) (fun cd pre M c => cd = .ret ∧ ∃ z, z <+: (sliL n1 n2 l0) ∧ X z M c) E S rfl h0 (Hp.le.refl _) (fun _ _ _ h => by rw [h]; rfl) (by decide) (by rintro _ M M' c hM ⟨u5, c1, rfl, f0⟩; exact ⟨_, _, rfl, hJM _ _ _ _ hM f0⟩) ⟨_, _, rfl, J_eq hJ (by rfl)⟩ ?_ ?_ ?_
      clear E S
      · rintro lb_31 rec_32 pre xa _ a w M_30 _ G hM_30 hp_33 rfl ⟨u5, c1, rfl, f0⟩ E S
        replace E : Env a 86 [] [(62, .int .i64 xa), (1, .pointer (some ⟨bx1, 0, none⟩)), (2, .pointer (some ⟨bx2, 0, none⟩)), (4, .pointer (some ⟨b_1, 0, none⟩)), (5, .pointer (some ⟨b_4, 0, none⟩)), (6, .pointer (some ⟨b_6, 0, none⟩)), (61, v0)] := E
        replace S := S.swap.unpack
        have hq1 := prefix_lt hp_33
        replace h0 := h0.le hM_30
        replace hbx1 := hM_30.2 _ _ hbx1
        replace hbx2 := hM_30.2 _ _ hbx2
        replace hbx3 := hM_30.2 _ _ hbx3
        replace hb_1 := hM_30.2 _ _ hb_1
        have hsl := sl_facts hn hs pre
        refine WP_region ?_
        refine S_v E rfl (R_load E rfl (Try.isAgg24 _) (cell_blk (S.mem (.head _)))) rfl ?_
        clear E a; intro a E
        refine S_v E rfl (R_load E rfl (Try.isAgg3 _) (cell_blk (S.mem (.tail _ (.tail _ (.tail _ (.head _))))))) rfl ?_
        clear E a; intro a E
        replace S := S.front1
        obtain ⟨p_35, hp_35⟩ := S.ptrC (k := (slS n1 n2 (pre)).cnt) (by (first | omega | (simp; omega) | (rw [hsl.1]; omega) | (rw [List.length_set, hsl.1]; omega)))
        refine S_v E rfl (R_idx E rfl rfl T24 hp_35 rfl) rfl ?_
        clear E a; intro a E
        refine S_x0 (X_storeI E S rfl rfl (Try.sizeOf3 _) hp_35 ?_)
        clear E a S; rintro a w E S
        refine WL_nil ?_
        refine T_n ?_
        replace S := S.front5
        refine rb S ?_
        clear S; intro w S
        refine WP_block ?_
        refine WP_seq ?_
        refine WP_region ?_
        refine S_v E rfl (R_load E rfl (Try.isAgg3 _) (cell_blk (S.mem (.tail _ (.tail _ (.tail _ (.tail _ (.head _)))))))) rfl ?_
        clear E a; intro a E
        refine S_v E rfl (R_addx (m := (((slS n1 n2 (pre)).cnt + 1 : Nat) : Int)) E rfl rfl (by omega) (by omega)) rfl ?_
        clear E a; intro a E
        replace S := S.front4
        refine S_x0 (X_store E S rfl rfl (Try.sizeOf3 _) rfl ?_)
        clear E a S; rintro a w E S
        refine WL_nil ?_
        refine T_n ?_
        refine WP_seq ?_
        refine WP_region ?_
        refine S_v E rfl (R_load E rfl (Try.isAgg3 _) (cell_blk (S.mem (.head _)))) rfl ?_
        clear E a; intro a E
        refine S_v E rfl (R_loadM E rfl Try.isAgg3 S.imm (cellM_box hbx1)) rfl ?_
        clear E a; intro a E
        refine S_v E rfl (R_eql E rfl rfl) rfl ?_
        clear E a; intro a E
        refine WL_nil ?_
        refine T_n ?_
        refine WP_cond E rfl (fun hc_36 => ?_) (fun hc_36 => ?_)
        · replace hc_36 := of_decide_eq_true hc_36
          refine WP_seq ?_
          refine WP_seq ?_
          have hbx1k36 := hbx1
          have hbx2k36 := hbx2
          have hb_1k36 := hb_1
          replace S := S.mono_heap (w' := World.drew _) rfl
          refine WP_drawn (C := fun x w => agree M_30 w ∧ (x = 3 → w.heap[b_4]? = some (.cells #[u5] 24))) (bf := (fun i => bif Nat.beq i 2 then [] else bif Nat.beq i 4 then [3] else bif Nat.beq i 5 then [3] else [])) [0, 1, 3, 6] [0, 1, 3, 2, 4, 5, 6] Try.mixed (by kernel_rfl) (fun x hq => ⟨S.imm, fun _ => (S.mem (.tail _ (.tail _ (.tail _ (.head _)))))⟩) ?_
          refine D_v E rfl rfl rfl (fun w hC => (R_loadM E rfl Try.isAgg133 hC.1 (cellM_box hb_1k36))) ?_
          clear E a; intro a E
          refine D_v E rfl rfl rfl (fun w hC => (R_loadM E rfl Try.isAgg3 hC.1 (cellM_box hbx1k36))) ?_
          clear E a; intro a E
          refine D_v E rfl rfl rfl (fun w hC => (R_load E rfl (Try.isAgg24 _) (cell_blk (hC.2 rfl)))) ?_
          clear E a; intro a E
          refine D_x rfl rfl rfl (X_make0 (k := n1) E S rfl rfl rfl T24 rfl (by omega) (by omega) (by omega) ?_)
          clear E a S; rintro a w v_37 E S
          replace S := S.made0
          refine ⟨fun x hq hb => ⟨(agree_le (Hp.le.refl _) S.imm), (fun _ => (S.mem (.tail _ (.tail _ (.tail _ (.tail _ (.head _)))))))⟩, ?_⟩
          replace S := S.front3
          refine D_x rfl rfl rfl (X_appendO (xs := ([] : List Int)) (ys := ((slS n1 n2 (pre)).buf).set ((slS n1 n2 (pre)).cnt) xa) E S rfl rfl rfl T24 (by (first | (simp; omega) | (simp [hsl.1]; omega))) ?_)
          clear E a S; rintro a w v_38 E S
          refine ⟨fun x hq hb => ⟨(agree_le (Hp.le.refl _) S.imm), (fun e => by subst e; exact absurd hb (by decide))⟩, ?_⟩
          have S0 := S; clear S
          obtain ⟨M_39, hM_39, hz_40, S⟩ := S0.freezeI (by (first | omega | (simp; omega) | (simp [hsl.1]; omega)))
          clear S0
          replace h0 := h0.le hM_39
          replace hbx1 := hM_39.2 _ _ hbx1
          replace hbx2 := hM_39.2 _ _ hbx2
          replace hbx3 := hM_39.2 _ _ hbx3
          replace hb_1 := hM_39.2 _ _ hb_1
          replace f0 := hJM _ _ _ _ hM_39 f0
          replace S := S.front5
          refine D_x rfl rfl rfl (X_yield (x := [] ++ (((slS n1 n2 (pre)).buf).set ((slS n1 n2 (pre)).cnt) xa)) E S rfl rfl rfl hY (hM_2.trans (hM_30.trans hM_39)) (by first | exact sl_tell hn hs (by assumption) (hsl.2.2.1 (by omega)) (by omega) | exact sl_tell hn hs (by assumption) (by omega) (by omega)) ⟨_, rfl, hz_40⟩ f0 ?_)
          clear E a S; rintro a w M_41 c_42 go_43 hM_41 f0 S E
          replace h0 := h0.le hM_41
          replace hbx1 := hM_41.2 _ _ hbx1
          replace hbx2 := hM_41.2 _ _ hbx2
          replace hbx3 := hM_41.2 _ _ hbx3
          replace hb_1 := hM_41.2 _ _ hb_1
          replace hz_40 := hz_40.le hM_41
          refine ⟨fun x hq hb => ⟨(agree_le (hM_39.trans hM_41) S.imm), (fun e => by subst e; exact absurd hb (by decide))⟩, ?_⟩
          cases go_43
          · replace f0 : X ((slS n1 n2 (pre)).out ++ [[] ++ (((slS n1 n2 (pre)).buf).set ((slS n1 n2 (pre)).cnt) xa)]) M_41 c_42 := f0
            refine D_v E rfl rfl rfl (fun w hC => (R_not E rfl)) ?_
            clear E a; intro a E
            refine D_end (NoP_n ?_)
            refine T_n ?_
            refine WP_condT E rfl rfl ?_
            refine WP_ret ?_
            refine T_r ?_
            refine B_r ?_
            replace S := S.front1
            replace S := S.drop
            replace S := S.front1
            replace S := S.drop
            replace S := S.front2
            replace S := S.drop
            replace S := S.front2
            replace S := S.drop
            replace S := S.front1
            exact ⟨M_41, _, (hM_39.trans hM_41), ⟨rfl, _, (by first | assumption | (first | exact sl_tell hn hs (by assumption) (hsl.2.2.1 (by omega)) (by omega) | exact sl_tell hn hs (by assumption) (by omega) (by omega)) | ((first | (simp; done) | exact List.prefix_refl _ | (rw [pre_take (by assumption)]; exact List.take_prefix _ _) | exact pre_take_lt (by assumption)))), f0⟩, S⟩
          · replace f0 : J ((slS n1 n2 (pre)).out ++ [[] ++ (((slS n1 n2 (pre)).buf).set ((slS n1 n2 (pre)).cnt) xa)]) M_41 c_42 := f0
            refine D_v E rfl rfl rfl (fun w hC => (R_not E rfl)) ?_
            clear E a; intro a E
            refine D_end (NoP_n ?_)
            refine T_n ?_
            refine WP_condF E rfl rfl ?_
            refine WP_skip ?_
            refine T_n ?_
            refine WP_seq ?_
            refine WP_region ?_
            refine S_v E rfl (R_load E rfl (Try.isAgg3 _) (cell_blk (S.mem (.tail _ (.tail _ (.head _)))))) rfl ?_
            clear E a; intro a E
            refine S_v E rfl (R_loadM E rfl Try.isAgg3 S.imm (cellM_box hbx2)) rfl ?_
            clear E a; intro a E
            refine S_v E rfl (R_subx (m := (((slS n1 n2 (pre)).cnt + 1 - n2 : Nat) : Int)) E rfl rfl (by omega) (by omega)) rfl ?_
            clear E a; intro a E
            replace S := S.front2
            refine S_x0 (X_store E S rfl rfl (Try.sizeOf3 _) rfl ?_)
            clear E a S; rintro a w E S
            refine WL_nil ?_
            refine T_n ?_
            have hbx1k43 := hbx1
            have hbx2k43 := hbx2
            have hb_1k43 := hb_1
            replace S := S.mono_heap (w' := World.drew _) rfl
            refine WP_drawn (C := fun x w => agree M_41 w ∧ (x = 0 → w.heap[b_4]? = some (.cells #[u5] 24)) ∧ (x = 1 → w.heap[b_4]? = some (.cells #[u5] 24))) (bf := (fun i => bif Nat.beq i 4 then [0, 1] else [])) [0, 1, 2, 3] [0, 1, 2, 3, 4] Try.mixed (by kernel_rfl) (fun x hq => ⟨S.imm, fun _ => (S.mem (.tail _ (.tail _ (.tail _ (.tail _ (.head _)))))), fun _ => (S.mem (.tail _ (.tail _ (.tail _ (.tail _ (.head _))))))⟩) ?_
            refine D_v E rfl rfl rfl (fun w hC => (R_load E rfl (Try.isAgg24 _) (cell_blk (hC.2.1 rfl)))) ?_
            clear E a; intro a E
            refine D_v E rfl rfl rfl (fun w hC => (R_load E rfl (Try.isAgg24 _) (cell_blk (hC.2.2 rfl)))) ?_
            clear E a; intro a E
            refine D_v E rfl rfl rfl (fun w hC => (R_loadM E rfl Try.isAgg3 hC.1 (cellM_box hbx2k43))) ?_
            clear E a; intro a E
            replace S := S.front2
            obtain ⟨v_44, sv_44⟩ := S.subO (lo := n2) (by (first | omega | (simp; omega) | (rw [hsl.1]; omega) | (rw [List.length_set, hsl.1]; omega)))
            refine D_v E rfl rfl rfl (fun w hC => (R_sliceL E rfl rfl T24 S.lenC sv_44 (by omega))) ?_
            clear E a; intro a E
            refine D_x rfl rfl rfl (X_copyO (xs := ((slS n1 n2 (pre)).buf).set ((slS n1 n2 (pre)).cnt) xa) (lo := n2) E S rfl rfl rfl T24 sv_44 ?_)
            clear E a S; rintro a w E S
            refine ⟨fun x hq hb => ⟨(agree_le (Hp.le.refl _) S.imm), (fun e => by subst e; exact absurd hb (by decide)), (fun e => by subst e; exact absurd hb (by decide))⟩, ?_⟩
            refine D_end (NoP_n ?_)
            refine B_n ?_
            replace S := S.front2
            replace S := S.front2
            replace S := S.front5
            replace S := S.front3
            replace S := S.front5
            replace S := S.front4
            replace S := S.front4
            replace S := S.blk_int (j := (((slS n1 n2 ((pre ++ [xa]))).cnt : Nat) : Int)) (by (first | rfl | (rw [sl_part (hsl.2.2.1 (by omega)) (by omega)]; done) | (rw [sl_le (by omega) (hsl.2.2.1 (by omega)) (by omega)]; show (_ : Int) = _; omega) | (rw [sl_le (by omega) (hsl.2.2.1 (by omega)) (by omega)]; simp; omega) | (rw [sl_part (hsl.2.2.1 (by omega)) (by omega)]; simp; done)))
            replace S := S.front4
            replace S := S.front4
            replace S := S.re1 (l' := (slS n1 n2 ((pre ++ [xa]))).buf) (by first | rfl | (rw [sl_part (hsl.2.2.1 (by omega)) (by omega)]; done) | (rw [sl_le (by omega) (hsl.2.2.1 (by omega)) (by omega)]; exact sl_same (by rw [List.length_set]; exact hsl.1) (by omega)) | (rw [sl_le (by omega) (hsl.2.2.1 (by omega)) (by omega)]; simp only [List.length_set, hsl.1]; done))
            replace S := S.front4
            have S0 := S; clear S; have S := (St.pack [blk b_4 (.cells #[u5] 24), OwnI 3 u5 ((slS n1 n2 ((pre ++ [xa]))).buf), blk b_7 (.cells #[.int .i64 (((n2 : Nat) : Int) - ((n1 : Nat) : Int))] 3), blk b_6 (.cells #[.int .i64 (((slS n1 n2 ((pre ++ [xa]))).cnt : Nat) : Int)] 3), c_42] S0).swap; clear S0
            exact ⟨M_41, _, (hM_39.trans hM_41), ⟨_, _, rfl, J_eq f0 (by (first | (rw [sl_part (hsl.2.2.1 (by omega)) (by omega)]; done) | (rw [sl_le (by omega) (hsl.2.2.1 (by omega)) (by omega)]; rfl) | (rw [sl_le (by omega) (hsl.2.2.1 (by omega)) (by omega)]; simp; done)))⟩, S⟩
        · replace hc_36 := of_decide_eq_false hc_36
          refine WP_skip ?_
          refine B_n ?_
          replace S := S.front5
          replace S := S.front1
          replace S := S.front5
          replace S := S.front4
          replace S := S.front5
          replace S := S.front4
          replace S := S.front4
          replace S := S.blk_int (j := (((slS n1 n2 ((pre ++ [xa]))).cnt : Nat) : Int)) (by (first | rfl | (rw [sl_part (hsl.2.2.1 (by omega)) (by omega)]; done) | (rw [sl_le (by omega) (hsl.2.2.1 (by omega)) (by omega)]; show (_ : Int) = _; omega) | (rw [sl_le (by omega) (hsl.2.2.1 (by omega)) (by omega)]; simp; omega) | (rw [sl_part (hsl.2.2.1 (by omega)) (by omega)]; simp; done)))
          replace S := S.front4
          replace S := S.front4
          replace S := S.re1 (l' := (slS n1 n2 ((pre ++ [xa]))).buf) (by first | rfl | (rw [sl_part (hsl.2.2.1 (by omega)) (by omega)]; done) | (rw [sl_le (by omega) (hsl.2.2.1 (by omega)) (by omega)]; exact sl_same (by rw [List.length_set]; exact hsl.1) (by omega)) | (rw [sl_le (by omega) (hsl.2.2.1 (by omega)) (by omega)]; simp only [List.length_set, hsl.1]; done))
          replace S := S.front4
          have S0 := S; clear S; have S := (St.pack [blk b_4 (.cells #[u5] 24), OwnI 3 u5 ((slS n1 n2 ((pre ++ [xa]))).buf), blk b_7 (.cells #[.int .i64 (((n2 : Nat) : Int) - ((n1 : Nat) : Int))] 3), blk b_6 (.cells #[.int .i64 (((slS n1 n2 ((pre ++ [xa]))).cnt : Nat) : Int)] 3), c1] S0).swap; clear S0
          exact ⟨M_30, _, (Hp.le.refl _), ⟨_, _, rfl, J_eq f0 (by (first | (rw [sl_part (hsl.2.2.1 (by omega)) (by omega)]; done) | (rw [sl_le (by omega) (hsl.2.2.1 (by omega)) (by omega)]; rfl) | (rw [sl_le (by omega) (hsl.2.2.1 (by omega)) (by omega)]; simp; done)))⟩, S⟩
      · rintro a w M_45 _ D_46 hM_45 ⟨u5, c1, rfl, f0⟩ S E
        replace S := S.unpack
        replace h0 := h0.le hM_45
        replace hbx1 := hM_45.2 _ _ hbx1
        replace hbx2 := hM_45.2 _ _ hbx2
        replace hbx3 := hM_45.2 _ _ hbx3
        replace hb_1 := hM_45.2 _ _ hb_1
        refine B_n ?_
        refine B_n ?_
        refine F_nrm ?_
        replace S := S.drop
        replace S := S.drop
        replace S := S.drop
        replace S := S.drop
        replace S := S.front1
        have hpre : (slS n1 n2 (l0)).out = sliL n1 n2 l0 := by (exact sl_out hn hs _)
        rw [hpre] at f0
        exact F_retM0 E S Try.results144 (fun w S => ⟨_, rfl, M_45, _, (hM_2.trans hM_45), .inl f0, S⟩)
      · rintro a w M_47 c_ D_48 p_49 _ hM_47 hp_50 ⟨rfl, z_, hz_, f0⟩ S E
        replace h0 := h0.le hM_47
        replace hbx1 := hM_47.2 _ _ hbx1
        replace hbx2 := hM_47.2 _ _ hbx2
        replace hbx3 := hM_47.2 _ _ hbx3
        replace hb_1 := hM_47.2 _ _ hb_1
        refine WP_ret ?_
        refine B_r ?_
        refine B_r ?_
        replace S := S.front1
        exact F_retM0 E S Try.results144 (fun w S => ⟨_, rfl, M_47, _, (hM_2.trans hM_47), .inr ⟨z_, (by first | assumption | ((first | (simp; done) | exact List.prefix_refl _ | (rw [pre_take (by assumption)]; exact List.take_prefix _ _) | exact pre_take_lt (by assumption)))), f0⟩, S⟩)
    · replace hc_29 := of_decide_eq_false hc_29
      refine WP_seq ?_
      refine WP_region ?_
      refine S_x (X_alloc (cs := #[.int .i64 0]) E S rfl Try.zeroValue3 rfl ?_)
      clear E a S; rintro a w b_51 E S
      refine S_x0 (X_store E S rfl rfl (Try.sizeOf3 _) rfl ?_)
      clear E a S; rintro a w E S
      refine WL_nil ?_
      refine T_n ?_
      refine WP_seq ?_
      refine WP_region ?_
      refine S_v E rfl (R_loadM E rfl Try.isAgg82 S.imm (cellM_box hbx3)) rfl ?_
      clear E a; intro a E
      refine WL_nil ?_
      refine T_n ?_
      refine WP_block ?_
      replace S := S.front3
      replace S := S.front6
      replace S := S.front4
      replace S := S.front4
      replace S := S.front4
      replace S := S.front5
      replace S := S.front5
      replace E := E.keep (l' := [(1, .pointer (some ⟨bx1, 0, none⟩)), (4, .pointer (some ⟨b_1, 0, none⟩)), (5, .pointer (some ⟨b_4, 0, none⟩)), (6, .pointer (some ⟨b_6, 0, none⟩)), (7, .pointer (some ⟨b_7, 0, none⟩)), (8, .pointer (some ⟨b_51, 0, none⟩)), (15, v0)]) ⟨rfl, rfl, rfl, rfl, rfl, rfl, rfl, trivial⟩
      replace S := S.front5
      replace S := S.front5
      replace S := S.blk_int (j := (((slS n1 n2 (([] : List Int))).cnt : Nat) : Int)) (by (first | rfl | (rw [sl_gt (by omega) (by omega) (by omega)]; rfl) | (rw [sl_part (by omega) (by omega)]; rfl) | (rw [sl_skip (by omega)]; rfl) | (rw [sl_gt (by omega) (by omega) (by omega)]; simp; done) | (rw [sl_part (by omega) (by omega)]; simp; done) | (rw [sl_part (by omega) (by omega)]; done) | (rw [sl_skip (by omega)]; done) | (rw [sl_gt (by omega) (by omega) (by omega)]; done) | (rw [sl_skip (by omega)]; simp; done) | (rw [sl_skip (by omega)]; simp; omega) | (rw [sl_gt (by omega) (by omega) (by omega)]; simp; omega) | (rw [sl_part (by omega) (by omega)]; simp; omega) | (rw [sl_skip (by omega)]; show (_ : Int) = _; omega)))
      replace S := S.front5
      replace S := S.front5
      replace S := S.blk_int (j := (((slS n1 n2 (([] : List Int))).skip : Nat) : Int)) (by (first | rfl | (rw [sl_gt (by omega) (by omega) (by omega)]; rfl) | (rw [sl_part (by omega) (by omega)]; rfl) | (rw [sl_skip (by omega)]; rfl) | (rw [sl_gt (by omega) (by omega) (by omega)]; simp; done) | (rw [sl_part (by omega) (by omega)]; simp; done) | (rw [sl_part (by omega) (by omega)]; done) | (rw [sl_skip (by omega)]; done) | (rw [sl_gt (by omega) (by omega) (by omega)]; done) | (rw [sl_skip (by omega)]; simp; done) | (rw [sl_skip (by omega)]; simp; omega) | (rw [sl_gt (by omega) (by omega) (by omega)]; simp; omega) | (rw [sl_part (by omega) (by omega)]; simp; omega) | (rw [sl_skip (by omega)]; show (_ : Int) = _; omega)))
      replace S := S.front5
      replace S := S.re1 (l' := (slS n1 n2 (([] : List Int))).buf) (by first | rfl | (rw [sl_part (by omega) (by omega)]; done) | (rw [sl_gt (by omega) (by omega) (by omega)]; done) | (rw [sl_skip (by omega)]; done))
      replace S := S.front5
      have S0 := S; clear S; have S := St.pack [blk b_4 (.cells #[v_3] 24), OwnI 3 v_3 ((slS n1 n2 (([] : List Int))).buf), blk b_51 (.cells #[.int .i64 (((slS n1 n2 (([] : List Int))).skip : Nat) : Int)] 3), blk b_7 (.cells #[.int .i64 (((n2 : Nat) : Int) - ((n1 : Nat) : Int))] 3), blk b_6 (.cells #[.int .i64 (((slS n1 n2 (([] : List Int))).cnt : Nat) : Int)] 3), c] S0; clear S0
      refine WP_range (RV := RInt) (l := l0) (fun pre M c => ∃ (u5 : Value) (c2 : HProp), c = bigs [blk b_4 (.cells #[u5] 24), OwnI 3 u5 ((slS n1 n2 (pre)).buf), blk b_51 (.cells #[.int .i64 (((slS n1 n2 (pre)).skip : Nat) : Int)] 3), blk b_7 (.cells #[.int .i64 (((n2 : Nat) : Int) - ((n1 : Nat) : Int))] 3), blk b_6 (.cells #[.int .i64 (((slS n1 n2 (pre)).cnt : Nat) : Int)] 3), c2] ∧ (J ((slS n1 n2 (pre)).out) M c2)) (fun cd pre M c => cd = .ret ∧ ∃ z, z <+: (sliL n1 n2 l0) ∧ X z M c) E S rfl h0 (Hp.le.refl _) (fun _ _ _ h => by rw [h]; rfl) (by decide) (by rintro _ M M' c hM ⟨u5, c2, rfl, f0⟩; exact ⟨_, _, rfl, hJM _ _ _ _ hM f0⟩) ⟨_, _, rfl, J_eq hJ (by rfl)⟩ ?_ ?_ ?_
      clear E S
      · rintro lb_53 rec_54 pre xa _ a w M_52 _ G hM_52 hp_55 rfl ⟨u5, c2, rfl, f0⟩ E S
        replace E : Env a 86 [] [(16, .int .i64 xa), (1, .pointer (some ⟨bx1, 0, none⟩)), (4, .pointer (some ⟨b_1, 0, none⟩)), (5, .pointer (some ⟨b_4, 0, none⟩)), (6, .pointer (some ⟨b_6, 0, none⟩)), (7, .pointer (some ⟨b_7, 0, none⟩)), (8, .pointer (some ⟨b_51, 0, none⟩)), (15, v0)] := E
        replace S := S.swap.unpack
        have hq2 := prefix_lt hp_55
        replace h0 := h0.le hM_52
        replace hbx1 := hM_52.2 _ _ hbx1
        replace hbx2 := hM_52.2 _ _ hbx2
        replace hbx3 := hM_52.2 _ _ hbx3
        replace hb_1 := hM_52.2 _ _ hb_1
        have hsl := sl_facts hn hs pre
        refine WP_region ?_
        refine S_v E rfl (R_assign E rfl) rfl ?_
        clear E a; intro a E
        refine WL_nil ?_
        refine T_n ?_
        replace S := S.front6
        refine rb S ?_
        clear S; intro w S
        refine WP_block ?_
        refine WP_seq ?_
        refine WP_seq ?_
        refine WP_region ?_
        refine S_v E rfl (R_load E rfl (Try.isAgg3 _) (cell_blk (S.mem (.tail _ (.tail _ (.tail _ (.head _))))))) rfl ?_
        clear E a; intro a E
        refine S_v E rfl (R_gtr E rfl rfl) rfl ?_
        clear E a; intro a E
        refine WL_nil ?_
        refine T_n ?_
        refine WP_cond E rfl (fun hc_57 => ?_) (fun hc_57 => ?_)
        · replace hc_57 := of_decide_eq_true hc_57
          refine WP_seq ?_
          refine WP_region ?_
          refine S_v E rfl (R_load E rfl (Try.isAgg3 _) (cell_blk (S.mem (.tail _ (.tail _ (.tail _ (.head _))))))) rfl ?_
          clear E a; intro a E
          refine S_v E rfl (R_subx (m := (((slS n1 n2 (pre)).skip - 1 : Nat) : Int)) E rfl rfl (by omega) (by omega)) rfl ?_
          clear E a; intro a E
          replace S := S.front3
          refine S_x0 (X_store E S rfl rfl (Try.sizeOf3 _) rfl ?_)
          clear E a S; rintro a w E S
          refine WL_nil ?_
          refine T_n ?_
          refine WP_exit ?_
          refine T_x ?_
          refine B_x ?_
          replace S := S.front6
          replace S := S.front6
          replace S := S.front6
          replace S := S.front3
          replace S := S.front6
          replace S := S.front6
          replace S := S.front5
          replace S := S.front5
          replace S := S.blk_int (j := (((slS n1 n2 ((pre ++ [xa]))).cnt : Nat) : Int)) (by (first | rfl | (rw [sl_gt (by omega) (by omega) (by omega)]; rfl) | (rw [sl_part (by omega) (by omega)]; rfl) | (rw [sl_skip (by omega)]; rfl) | (rw [sl_gt (by omega) (by omega) (by omega)]; simp; done) | (rw [sl_part (by omega) (by omega)]; simp; done) | (rw [sl_part (by omega) (by omega)]; done) | (rw [sl_skip (by omega)]; done) | (rw [sl_gt (by omega) (by omega) (by omega)]; done) | (rw [sl_skip (by omega)]; simp; done) | (rw [sl_skip (by omega)]; simp; omega) | (rw [sl_gt (by omega) (by omega) (by omega)]; simp; omega) | (rw [sl_part (by omega) (by omega)]; simp; omega) | (rw [sl_skip (by omega)]; show (_ : Int) = _; omega)))
          replace S := S.front5
          replace S := S.front5
          replace S := S.blk_int (j := (((slS n1 n2 ((pre ++ [xa]))).skip : Nat) : Int)) (by (first | rfl | (rw [sl_gt (by omega) (by omega) (by omega)]; rfl) | (rw [sl_part (by omega) (by omega)]; rfl) | (rw [sl_skip (by omega)]; rfl) | (rw [sl_gt (by omega) (by omega) (by omega)]; simp; done) | (rw [sl_part (by omega) (by omega)]; simp; done) | (rw [sl_part (by omega) (by omega)]; done) | (rw [sl_skip (by omega)]; done) | (rw [sl_gt (by omega) (by omega) (by omega)]; done) | (rw [sl_skip (by omega)]; simp; done) | (rw [sl_skip (by omega)]; simp; omega) | (rw [sl_gt (by omega) (by omega) (by omega)]; simp; omega) | (rw [sl_part (by omega) (by omega)]; simp; omega) | (rw [sl_skip (by omega)]; show (_ : Int) = _; omega)))
          replace S := S.front5
          replace S := S.re1 (l' := (slS n1 n2 ((pre ++ [xa]))).buf) (by first | rfl | (rw [sl_part (by omega) (by omega)]; done) | (rw [sl_gt (by omega) (by omega) (by omega)]; done) | (rw [sl_skip (by omega)]; done))
          replace S := S.front5
          have S0 := S; clear S; have S := (St.pack [blk b_4 (.cells #[u5] 24), OwnI 3 u5 ((slS n1 n2 ((pre ++ [xa]))).buf), blk b_51 (.cells #[.int .i64 (((slS n1 n2 ((pre ++ [xa]))).skip : Nat) : Int)] 3), blk b_7 (.cells #[.int .i64 (((n2 : Nat) : Int) - ((n1 : Nat) : Int))] 3), blk b_6 (.cells #[.int .i64 (((slS n1 n2 ((pre ++ [xa]))).cnt : Nat) : Int)] 3), c2] S0).swap; clear S0
          exact ⟨M_52, _, (Hp.le.refl _), ⟨_, _, rfl, J_eq f0 (by (first | (rw [sl_part (by omega) (by omega)]; done) | (rw [sl_gt (by omega) (by omega) (by omega)]; rfl) | (rw [sl_skip (by omega)]; done)))⟩, S⟩
        · replace hc_57 := of_decide_eq_false hc_57
          refine WP_skip ?_
          refine T_n ?_
          refine WP_seq ?_
          refine WP_region ?_
          refine S_v E rfl (R_load E rfl (Try.isAgg24 _) (cell_blk (S.mem (.tail _ (.head _))))) rfl ?_
          clear E a; intro a E
          refine S_v E rfl (R_load E rfl (Try.isAgg3 _) (cell_blk (S.mem (.tail _ (.tail _ (.tail _ (.tail _ (.tail _ (.head _))))))))) rfl ?_
          clear E a; intro a E
          refine S_v E rfl (R_move E rfl) rfl ?_
          clear E a; intro a E
          replace S := S.front2
          obtain ⟨p_58, hp_58⟩ := S.ptrC (k := (slS n1 n2 (pre)).cnt) (by (first | omega | (simp; omega) | (rw [hsl.1]; omega) | (rw [List.length_set, hsl.1]; omega)))
          refine S_v E rfl (R_idx E rfl rfl T24 hp_58 rfl) rfl ?_
          clear E a; intro a E
          refine S_x0 (X_storeI E S rfl rfl (Try.sizeOf3 _) hp_58 ?_)
          clear E a S; rintro a w E S
          refine WL_nil ?_
          refine T_n ?_
          refine WP_seq ?_
          refine WP_region ?_
          refine S_v E rfl (R_load E rfl (Try.isAgg3 _) (cell_blk (S.mem (.tail _ (.tail _ (.tail _ (.tail _ (.tail _ (.head _))))))))) rfl ?_
          clear E a; intro a E
          refine S_v E rfl (R_addx (m := (((slS n1 n2 (pre)).cnt + 1 : Nat) : Int)) E rfl rfl (by omega) (by omega)) rfl ?_
          clear E a; intro a E
          replace S := S.front5
          refine S_x0 (X_store E S rfl rfl (Try.sizeOf3 _) rfl ?_)
          clear E a S; rintro a w E S
          refine WL_nil ?_
          refine T_n ?_
          refine WP_seq ?_
          refine WP_region ?_
          refine S_v E rfl (R_load E rfl (Try.isAgg3 _) (cell_blk (S.mem (.head _)))) rfl ?_
          clear E a; intro a E
          refine S_v E rfl (R_loadM E rfl Try.isAgg3 S.imm (cellM_box hbx1)) rfl ?_
          clear E a; intro a E
          refine S_v E rfl (R_eql E rfl rfl) rfl ?_
          clear E a; intro a E
          refine WL_nil ?_
          refine T_n ?_
          refine WP_cond E rfl (fun hc_59 => ?_) (fun hc_59 => ?_)
          · replace hc_59 := of_decide_eq_true hc_59
            refine WP_seq ?_
            refine WP_seq ?_
            have hbx1k59 := hbx1
            have hb_1k59 := hb_1
            replace S := S.mono_heap (w' := World.drew _) rfl
            refine WP_drawn (C := fun x w => agree M_52 w ∧ (x = 3 → w.heap[b_4]? = some (.cells #[u5] 24))) (bf := (fun i => bif Nat.beq i 2 then [] else bif Nat.beq i 4 then [3] else bif Nat.beq i 5 then [3] else [])) [0, 1, 3, 6] [0, 1, 3, 2, 4, 5, 6] Try.mixed (by kernel_rfl) (fun x hq => ⟨S.imm, fun _ => (S.mem (.tail _ (.tail _ (.tail _ (.head _)))))⟩) ?_
            refine D_v E rfl rfl rfl (fun w hC => (R_loadM E rfl Try.isAgg133 hC.1 (cellM_box hb_1k59))) ?_
            clear E a; intro a E
            refine D_v E rfl rfl rfl (fun w hC => (R_loadM E rfl Try.isAgg3 hC.1 (cellM_box hbx1k59))) ?_
            clear E a; intro a E
            refine D_v E rfl rfl rfl (fun w hC => (R_load E rfl (Try.isAgg24 _) (cell_blk (hC.2 rfl)))) ?_
            clear E a; intro a E
            refine D_x rfl rfl rfl (X_make0 (k := n1) E S rfl rfl rfl T24 rfl (by omega) (by omega) (by omega) ?_)
            clear E a S; rintro a w v_60 E S
            replace S := S.made0
            refine ⟨fun x hq hb => ⟨(agree_le (Hp.le.refl _) S.imm), (fun _ => (S.mem (.tail _ (.tail _ (.tail _ (.tail _ (.head _)))))))⟩, ?_⟩
            replace S := S.front2
            refine D_x rfl rfl rfl (X_appendO (xs := ([] : List Int)) (ys := ((slS n1 n2 (pre)).buf).set ((slS n1 n2 (pre)).cnt) xa) E S rfl rfl rfl T24 (by (first | (simp; omega) | (simp [hsl.1]; omega))) ?_)
            clear E a S; rintro a w v_61 E S
            refine ⟨fun x hq hb => ⟨(agree_le (Hp.le.refl _) S.imm), (fun e => by subst e; exact absurd hb (by decide))⟩, ?_⟩
            have S0 := S; clear S
            obtain ⟨M_62, hM_62, hz_63, S⟩ := S0.freezeI (by (first | omega | (simp; omega) | (simp [hsl.1]; omega)))
            clear S0
            replace h0 := h0.le hM_62
            replace hbx1 := hM_62.2 _ _ hbx1
            replace hbx2 := hM_62.2 _ _ hbx2
            replace hbx3 := hM_62.2 _ _ hbx3
            replace hb_1 := hM_62.2 _ _ hb_1
            replace f0 := hJM _ _ _ _ hM_62 f0
            replace S := S.front6
            refine D_x rfl rfl rfl (X_yield (x := [] ++ (((slS n1 n2 (pre)).buf).set ((slS n1 n2 (pre)).cnt) xa)) E S rfl rfl rfl hY (hM_2.trans (hM_52.trans hM_62)) (by first | exact sl_tell hn hs (by assumption) (hsl.2.2.1 (by omega)) (by omega) | exact sl_tell hn hs (by assumption) (by omega) (by omega)) ⟨_, rfl, hz_63⟩ f0 ?_)
            clear E a S; rintro a w M_64 c_65 go_66 hM_64 f0 S E
            replace h0 := h0.le hM_64
            replace hbx1 := hM_64.2 _ _ hbx1
            replace hbx2 := hM_64.2 _ _ hbx2
            replace hbx3 := hM_64.2 _ _ hbx3
            replace hb_1 := hM_64.2 _ _ hb_1
            replace hz_63 := hz_63.le hM_64
            refine ⟨fun x hq hb => ⟨(agree_le (hM_62.trans hM_64) S.imm), (fun e => by subst e; exact absurd hb (by decide))⟩, ?_⟩
            cases go_66
            · replace f0 : X ((slS n1 n2 (pre)).out ++ [[] ++ (((slS n1 n2 (pre)).buf).set ((slS n1 n2 (pre)).cnt) xa)]) M_64 c_65 := f0
              refine D_v E rfl rfl rfl (fun w hC => (R_not E rfl)) ?_
              clear E a; intro a E
              refine D_end (NoP_n ?_)
              refine T_n ?_
              refine WP_condT E rfl rfl ?_
              refine WP_ret ?_
              refine T_r ?_
              refine B_r ?_
              replace S := S.front1
              replace S := S.drop
              replace S := S.front1
              replace S := S.drop
              replace S := S.front2
              replace S := S.drop
              replace S := S.front2
              replace S := S.drop
              replace S := S.front2
              replace S := S.drop
              replace S := S.front1
              exact ⟨M_64, _, (hM_62.trans hM_64), ⟨rfl, _, (by first | assumption | (first | exact sl_tell hn hs (by assumption) (hsl.2.2.1 (by omega)) (by omega) | exact sl_tell hn hs (by assumption) (by omega) (by omega)) | ((first | (simp; done) | exact List.prefix_refl _ | (rw [pre_take (by assumption)]; exact List.take_prefix _ _) | exact pre_take_lt (by assumption)))), f0⟩, S⟩
            · replace f0 : J ((slS n1 n2 (pre)).out ++ [[] ++ (((slS n1 n2 (pre)).buf).set ((slS n1 n2 (pre)).cnt) xa)]) M_64 c_65 := f0
              refine D_v E rfl rfl rfl (fun w hC => (R_not E rfl)) ?_
              clear E a; intro a E
              refine D_end (NoP_n ?_)
              refine T_n ?_
              refine WP_condF E rfl rfl ?_
              refine WP_skip ?_
              refine T_n ?_
              refine WP_seq ?_
              refine WP_region ?_
              replace S := S.front2
              refine S_x0 (X_store E S rfl rfl (Try.sizeOf3 _) rfl ?_)
              clear E a S; rintro a w E S
              refine WL_nil ?_
              refine T_n ?_
              refine WP_region ?_
              refine S_v E rfl (R_load E rfl (Try.isAgg3 _) (cell_blk (S.mem (.tail _ (.tail _ (.tail _ (.tail _ (.tail _ (.tail _ (.head _)))))))))) rfl ?_
              clear E a; intro a E
              replace S := S.front5
              refine S_x0 (X_store E S rfl rfl (Try.sizeOf3 _) rfl ?_)
              clear E a S; rintro a w E S
              refine WL_nil ?_
              refine B_n ?_
              replace S := S.front2
              replace S := S.front2
              replace S := S.front6
              replace S := S.front3
              replace S := S.front4
              replace S := S.front6
              replace S := S.front5
              replace S := S.front5
              replace S := S.blk_int (j := (((slS n1 n2 ((pre ++ [xa]))).cnt : Nat) : Int)) (by (first | rfl | (rw [sl_gt (by omega) (by omega) (by omega)]; rfl) | (rw [sl_part (by omega) (by omega)]; rfl) | (rw [sl_skip (by omega)]; rfl) | (rw [sl_gt (by omega) (by omega) (by omega)]; simp; done) | (rw [sl_part (by omega) (by omega)]; simp; done) | (rw [sl_part (by omega) (by omega)]; done) | (rw [sl_skip (by omega)]; done) | (rw [sl_gt (by omega) (by omega) (by omega)]; done) | (rw [sl_skip (by omega)]; simp; done) | (rw [sl_skip (by omega)]; simp; omega) | (rw [sl_gt (by omega) (by omega) (by omega)]; simp; omega) | (rw [sl_part (by omega) (by omega)]; simp; omega) | (rw [sl_skip (by omega)]; show (_ : Int) = _; omega)))
              replace S := S.front5
              replace S := S.front5
              replace S := S.blk_int (j := (((slS n1 n2 ((pre ++ [xa]))).skip : Nat) : Int)) (by (first | rfl | (rw [sl_gt (by omega) (by omega) (by omega)]; rfl) | (rw [sl_part (by omega) (by omega)]; rfl) | (rw [sl_skip (by omega)]; rfl) | (rw [sl_gt (by omega) (by omega) (by omega)]; simp; done) | (rw [sl_part (by omega) (by omega)]; simp; done) | (rw [sl_part (by omega) (by omega)]; done) | (rw [sl_skip (by omega)]; done) | (rw [sl_gt (by omega) (by omega) (by omega)]; done) | (rw [sl_skip (by omega)]; simp; done) | (rw [sl_skip (by omega)]; simp; omega) | (rw [sl_gt (by omega) (by omega) (by omega)]; simp; omega) | (rw [sl_part (by omega) (by omega)]; simp; omega) | (rw [sl_skip (by omega)]; show (_ : Int) = _; omega)))
              replace S := S.front5
              replace S := S.re1 (l' := (slS n1 n2 ((pre ++ [xa]))).buf) (by first | rfl | (rw [sl_part (by omega) (by omega)]; done) | (rw [sl_gt (by omega) (by omega) (by omega)]; done) | (rw [sl_skip (by omega)]; done))
              replace S := S.front5
              have S0 := S; clear S; have S := (St.pack [blk b_4 (.cells #[u5] 24), OwnI 3 u5 ((slS n1 n2 ((pre ++ [xa]))).buf), blk b_51 (.cells #[.int .i64 (((slS n1 n2 ((pre ++ [xa]))).skip : Nat) : Int)] 3), blk b_7 (.cells #[.int .i64 (((n2 : Nat) : Int) - ((n1 : Nat) : Int))] 3), blk b_6 (.cells #[.int .i64 (((slS n1 n2 ((pre ++ [xa]))).cnt : Nat) : Int)] 3), c_65] S0).swap; clear S0
              exact ⟨M_64, _, (hM_62.trans hM_64), ⟨_, _, rfl, J_eq f0 (by (first | (rw [sl_part (by omega) (by omega)]; done) | (rw [sl_gt (by omega) (by omega) (by omega)]; rfl) | (rw [sl_skip (by omega)]; done)))⟩, S⟩
          · replace hc_59 := of_decide_eq_false hc_59
            refine WP_skip ?_
            refine B_n ?_
            replace S := S.front6
            replace S := S.front1
            replace S := S.front6
            replace S := S.front6
            replace S := S.front4
            replace S := S.front6
            replace S := S.front5
            replace S := S.front5
            replace S := S.blk_int (j := (((slS n1 n2 ((pre ++ [xa]))).cnt : Nat) : Int)) (by (first | rfl | (rw [sl_gt (by omega) (by omega) (by omega)]; rfl) | (rw [sl_part (by omega) (by omega)]; rfl) | (rw [sl_skip (by omega)]; rfl) | (rw [sl_gt (by omega) (by omega) (by omega)]; simp; done) | (rw [sl_part (by omega) (by omega)]; simp; done) | (rw [sl_part (by omega) (by omega)]; done) | (rw [sl_skip (by omega)]; done) | (rw [sl_gt (by omega) (by omega) (by omega)]; done) | (rw [sl_skip (by omega)]; simp; done) | (rw [sl_skip (by omega)]; simp; omega) | (rw [sl_gt (by omega) (by omega) (by omega)]; simp; omega) | (rw [sl_part (by omega) (by omega)]; simp; omega) | (rw [sl_skip (by omega)]; show (_ : Int) = _; omega)))
            replace S := S.front5
            replace S := S.front5
            replace S := S.blk_int (j := (((slS n1 n2 ((pre ++ [xa]))).skip : Nat) : Int)) (by (first | rfl | (rw [sl_gt (by omega) (by omega) (by omega)]; rfl) | (rw [sl_part (by omega) (by omega)]; rfl) | (rw [sl_skip (by omega)]; rfl) | (rw [sl_gt (by omega) (by omega) (by omega)]; simp; done) | (rw [sl_part (by omega) (by omega)]; simp; done) | (rw [sl_part (by omega) (by omega)]; done) | (rw [sl_skip (by omega)]; done) | (rw [sl_gt (by omega) (by omega) (by omega)]; done) | (rw [sl_skip (by omega)]; simp; done) | (rw [sl_skip (by omega)]; simp; omega) | (rw [sl_gt (by omega) (by omega) (by omega)]; simp; omega) | (rw [sl_part (by omega) (by omega)]; simp; omega) | (rw [sl_skip (by omega)]; show (_ : Int) = _; omega)))
            replace S := S.front5
            replace S := S.re1 (l' := (slS n1 n2 ((pre ++ [xa]))).buf) (by first | rfl | (rw [sl_part (by omega) (by omega)]; done) | (rw [sl_gt (by omega) (by omega) (by omega)]; done) | (rw [sl_skip (by omega)]; done))
            replace S := S.front5
            have S0 := S; clear S; have S := (St.pack [blk b_4 (.cells #[u5] 24), OwnI 3 u5 ((slS n1 n2 ((pre ++ [xa]))).buf), blk b_51 (.cells #[.int .i64 (((slS n1 n2 ((pre ++ [xa]))).skip : Nat) : Int)] 3), blk b_7 (.cells #[.int .i64 (((n2 : Nat) : Int) - ((n1 : Nat) : Int))] 3), blk b_6 (.cells #[.int .i64 (((slS n1 n2 ((pre ++ [xa]))).cnt : Nat) : Int)] 3), c2] S0).swap; clear S0
            exact ⟨M_52, _, (Hp.le.refl _), ⟨_, _, rfl, J_eq f0 (by (first | (rw [sl_part (by omega) (by omega)]; done) | (rw [sl_gt (by omega) (by omega) (by omega)]; rfl) | (rw [sl_skip (by omega)]; done)))⟩, S⟩
      · rintro a w M_67 _ D_68 hM_67 ⟨u5, c2, rfl, f0⟩ S E
        replace S := S.unpack
        replace h0 := h0.le hM_67
        replace hbx1 := hM_67.2 _ _ hbx1
        replace hbx2 := hM_67.2 _ _ hbx2
        replace hbx3 := hM_67.2 _ _ hbx3
        replace hb_1 := hM_67.2 _ _ hb_1
        refine B_n ?_
        refine B_n ?_
        refine F_nrm ?_
        replace S := S.drop
        replace S := S.drop
        replace S := S.drop
        replace S := S.drop
        replace S := S.drop
        replace S := S.front1
        have hpre : (slS n1 n2 (l0)).out = sliL n1 n2 l0 := by (exact sl_out hn hs _)
        rw [hpre] at f0
        exact F_retM0 E S Try.results144 (fun w S => ⟨_, rfl, M_67, _, (hM_2.trans hM_67), .inl f0, S⟩)
      · rintro a w M_69 c_ D_70 p_71 _ hM_69 hp_72 ⟨rfl, z_, hz_, f0⟩ S E
        replace h0 := h0.le hM_69
        replace hbx1 := hM_69.2 _ _ hbx1
        replace hbx2 := hM_69.2 _ _ hbx2
        replace hbx3 := hM_69.2 _ _ hbx3
        replace hb_1 := hM_69.2 _ _ hb_1
        refine WP_ret ?_
        refine B_r ?_
        refine B_r ?_
        replace S := S.front1
        exact F_retM0 E S Try.results144 (fun w S => ⟨_, rfl, M_69, _, (hM_2.trans hM_69), .inr ⟨z_, (by first | assumption | ((first | (simp; done) | exact List.prefix_refl _ | (rw [pre_take (by assumption)]; exact List.take_prefix _ _) | exact pre_take_lt (by assumption)))), f0⟩, S⟩)

set_option maxRecDepth 100000 in
set_option maxHeartbeats 4000000 in
theorem it_Sliding {M : Hp} {v0 : Value} {l0 : List Int} (h0 : SeqV Try.prog v0 M (RInt) l0) {n1 n2 : Nat} (hn : 0 < n1) (hs : 0 < n2) (hb1 : n1 ≤ 1000000) (hb2 : n2 ≤ 1000000) :
    Pu Try.prog (.func (.func 106) #[] #[]) M [v0, .int .i64 ((n1 : Nat) : Int), .int .i64 ((n2 : Nat) : Int)] (fun r M' => SeqV Try.prog r M' (RSl 1 RInt) (sliL n1 n2 l0)) := by
  refine Pu_enter Try.func106 rfl Try.ntmps106 rfl Try.call106 ?_
  intro a w M1 H hM1 S E
  replace h0 := h0.le hM1
  refine WP_seq ?_
  refine WP_region ?_
  refine S_x (X_box (cs := #[v0]) E S rfl rfl (cells_one h0.1) ?_)
  clear E a S; rintro a w b_1 E S
  obtain ⟨M_2, hM_2, hb_1, S⟩ := S.freezeB
  replace h0 := h0.le hM_2
  refine S_x (X_box (cs := #[.int .i64 ((n1 : Nat) : Int)]) E S rfl rfl rfl ?_)
  clear E a S; rintro a w b_3 E S
  obtain ⟨M_4, hM_4, hb_3, S⟩ := S.freezeB
  replace h0 := h0.le hM_4
  replace hb_1 := hM_4.2 _ _ hb_1
  refine S_x (X_box (cs := #[.int .i64 ((n2 : Nat) : Int)]) E S rfl rfl rfl ?_)
  clear E a S; rintro a w b_5 E S
  obtain ⟨M_6, hM_6, hb_5, S⟩ := S.freezeB
  replace h0 := h0.le hM_6
  replace hb_1 := hM_6.2 _ _ hb_1
  replace hb_3 := hM_6.2 _ _ hb_3
  refine S_v E rfl (R_assign E rfl) rfl ?_
  clear E a; intro a E
  refine WL_nil ?_
  refine T_n ?_
  refine WP_seq ?_
  refine WP_seq ?_
  refine WP_region ?_
  refine S_v E rfl (R_loadM E rfl Try.isAgg3 S.imm (cellM_box hb_3)) rfl ?_
  clear E a; intro a E
  refine S_v E rfl (R_leq E rfl rfl) rfl ?_
  clear E a; intro a E
  refine WL_nil ?_
  refine T_n ?_
  have hc_7 : (decide (((n1 : Nat) : Int) ≤ 0)) = false := by (apply decide_eq_false; omega)
  refine WP_condF E rfl hc_7 ?_
  refine WP_skip ?_
  refine T_n ?_
  refine WP_seq ?_
  refine WP_seq ?_
  refine WP_region ?_
  refine S_v E rfl (R_loadM E rfl Try.isAgg3 S.imm (cellM_box hb_5)) rfl ?_
  clear E a; intro a E
  refine S_v E rfl (R_leq E rfl rfl) rfl ?_
  clear E a; intro a E
  refine WL_nil ?_
  refine T_n ?_
  have hc_8 : (decide (((n2 : Nat) : Int) ≤ 0)) = false := by (apply decide_eq_false; omega)
  refine WP_condF E rfl hc_8 ?_
  refine WP_skip ?_
  refine T_n ?_
  refine WP_seq ?_
  refine WP_region ?_
  refine S_v E rfl (R_makeFunc E rfl rfl) rfl ?_
  clear E a; intro a E
  refine S_v E rfl (R_assign E rfl) rfl ?_
  clear E a; intro a E
  refine WL_nil ?_
  refine T_n ?_
  refine WP_ret ?_
  exact F_ret1 E Try.results106 rfl ⟨_, rfl, M_6, (hM_2.trans (hM_4.trans hM_6)), (SeqV_eq (it_Sliding1 (n1 := n1) (n2 := n2) h0 (by omega) (by omega) (by omega) (by omega) hb_3 hb_5 hb_1) (by ((try clear S); (try clear E); first | rfl | (simp; done) | (simp_all; done) | grind [List.take_add_one]))), S⟩

set_option maxRecDepth 100000 in
set_option maxHeartbeats 4000000 in
theorem it_Window {M : Hp} {v0 : Value} {l0 : List Int} (h0 : SeqV Try.prog v0 M (RInt) l0) {n1 : Nat} (hn : 0 < n1) (hb1 : n1 ≤ 1000000) :
    Pu Try.prog (.func (.func 102) #[] #[]) M [v0, .int .i64 ((n1 : Nat) : Int)] (fun r M' => SeqV Try.prog r M' (RSl 1 RInt) (sliL n1 1 l0)) := by
  refine Pu_enter Try.func102 rfl Try.ntmps102 rfl Try.call102 ?_
  intro a w M1 H hM1 S E
  replace h0 := h0.le hM1
  refine WP_seq ?_
  refine WP_region ?_
  refine S_v E rfl (R_assign E rfl) rfl ?_
  clear E a; intro a E
  refine WL_nil ?_
  refine T_n ?_
  refine WP_seq ?_
  refine WP_seq ?_
  refine WP_region ?_
  refine S_v E rfl (R_move E rfl) rfl ?_
  clear E a; intro a E
  refine S_v E rfl (R_leq E rfl rfl) rfl ?_
  clear E a; intro a E
  refine WL_nil ?_
  refine T_n ?_
  have hc_1 : (decide (((n1 : Nat) : Int) ≤ 0)) = false := by (apply decide_eq_false; omega)
  refine WP_condF E rfl hc_1 ?_
  refine WP_skip ?_
  refine T_n ?_
  refine WP_seq ?_
  refine WP_region ?_
  refine S_v E rfl (R_move E rfl) rfl ?_
  clear E a; intro a E
  refine S_v E rfl (R_move E rfl) rfl ?_
  clear E a; intro a E
  refine S_x (X_pu E S rfl rfl rfl (it_Sliding h0 (by first | omega | (simp; done) | (simp; omega)) (by first | omega | (simp; done) | (simp; omega)) (by first | omega | (simp; done) | (simp; omega)) (by first | omega | (simp; done) | (simp; omega))) (Hp.le.refl _) ?_)
  clear E a S; rintro a v_3 w M_2 hM_2 hv_3 S E
  replace h0 := h0.le hM_2
  refine S_v E rfl (R_assign E rfl) rfl ?_
  clear E a; intro a E
  refine WL_nil ?_
  refine T_n ?_
  refine WP_ret ?_
  exact F_ret1 E Try.results102 rfl ⟨_, rfl, M_2, hM_2, hv_3, S⟩

set_option maxRecDepth 100000 in
set_option maxHeartbeats 4000000 in
theorem slices_AppendSeqL {M : Hp} {v1 : Value} {l1 : List (List Int)} (h1 : SeqV Try.prog v1 M (RSl 1 RInt) l1) (hb : l1.length ≤ 1000000) :
    Pu Try.prog (.func (.func 143) #[] #[]) M [.slice none 0 0, v1] (fun r M' => RdII M' r l1) := by
  refine Pu_enter Try.func143 rfl Try.ntmps143 rfl Try.call143 ?_
  intro a w M1 H hM1 S E
  replace h1 := h1.le hM1
  replace S : St w M1 (mks [] :: _) := S.empty
  replace E : Env a 13 (([] : List Nat).map mk) _ := E
  refine WP_seq ?_
  refine WP_region ?_
  refine S_x (X_box (cs := #[.slice none 0 0]) E S rfl rfl rfl ?_)
  clear E a S; rintro a w b_1 E S
  refine S_v E rfl (R_assign E rfl) rfl ?_
  clear E a; intro a E
  refine WL_nil ?_
  refine T_n ?_
  refine WP_seq ?_
  refine WP_seq ?_
  refine WP_region ?_
  refine S_v E rfl (R_move E rfl) rfl ?_
  clear E a; intro a E
  refine WL_nil ?_
  refine T_n ?_
  refine WP_block ?_
  replace S : St w M1 (OwnC 24 1 (.slice none 0 0) ([] : List (List Int)).length [] :: _) := S.ownNil
  have hr_3 : RowsR (RSl 1 RInt) 1 M1 ([] : List (List Int)) [] := RowsR.nil
  replace S := S.front1
  replace E := E.keep (l' := [(2, .pointer (some ⟨b_1, 0, none⟩)), (6, v1)]) ⟨rfl, rfl, trivial⟩
  replace S := S.front1
  have hre : ([] : List (List Int)) = [] := by first | rfl | (simp; done)
  replace S := S.reR hre
  replace hr_3 := hr_3.eq hre
  clear hre
  replace S := S.front1
  have S0 := S; clear S; have S := St.pack [blk b_1 (.cells #[(.slice none 0 0)] 22), OwnC 24 1 (.slice none 0 0) [].length []] S0; clear S0
  refine WP_range (RV := RSl 1 RInt) (l := l1) (fun pre M c => ∃ (u2 : Value) (xs2 : List Value), c = bigs [blk b_1 (.cells #[u2] 22), OwnC 24 1 u2 pre.length xs2] ∧ (RowsR (RSl 1 RInt) 1 M pre xs2)) (fun _ _ _ _ => False) E S rfl h1 (Hp.le.refl _) (fun _ _ _ h => by obtain ⟨_, h, _⟩ := h; rw [h]; rfl) (by decide) (by rintro _ M M' c hM ⟨u2, xs2, rfl, fr2⟩; exact ⟨_, _, rfl, fr2.le (RSl_mono RInt_mono) hM⟩) ⟨_, _, rfl, hr_3⟩ ?_ ?_ ?_
  clear E S
  · rintro lb_5 rec_6 pre xa _ a w M_4 _ G hM_4 hp_7 ⟨vxa, rfl, hv_8⟩ ⟨u2, xs2, rfl, fr2⟩ E S
    replace E : Env a 13 [] [(7, vxa), (2, .pointer (some ⟨b_1, 0, none⟩)), (6, v1)] := E
    replace hv_8 : RdI M_4 vxa xa := hv_8
    replace S := S.swap.unpack2
    have hq0 := prefix_lt hp_7
    replace h1 := h1.le hM_4
    replace hr_3 := hr_3.le (RSl_mono RInt_mono) hM_4
    have hpl := hp_7.length_le; simp at hpl
    refine WP_region ?_
    refine S_v E rfl (R_assign E rfl) rfl ?_
    clear E a; intro a E
    refine WL_nil ?_
    refine T_n ?_
    replace S := S.front2
    refine rb S ?_
    clear S; intro w S
    refine WP_block ?_
    refine WP_region ?_
    refine S_v E rfl (R_load E rfl (Try.isAgg22 _) (cell_blk (S.mem (.tail _ (.head _))))) rfl ?_
    clear E a; intro a E
    refine S_v E rfl (R_move E rfl) rfl ?_
    clear E a; intro a E
    refine S_x (X_buildM (R := RSl 1 RInt) (vs := [vxa]) (xs := [xa]) (RSl_mono RInt_mono) E S rfl T22 rfl rfl rfl (by intro u hu; simp only [List.mem_cons, List.not_mem_nil, or_false] at hu; rcases hu with rfl <;> first | exact RdI.one hv_8 | rfl) rfl (rowsC (R := RSl 1 RInt) (RdI.row hv_8) rowsN) ?_)
    clear E a S; rintro a v_9 w M_10 hM_10 hv_9 S E
    replace hv_9 : RdII M_10 v_9 [xa] := hv_9
    replace h1 := h1.le hM_10
    replace hr_3 := hr_3.le (RSl_mono RInt_mono) hM_10
    replace fr2 := fr2.le (RSl_mono RInt_mono) hM_10
    replace hv_8 := hv_8.le hM_10
    replace S := S.front2
    refine S_x (X_appendR (R := (RSl 1 RInt)) (zs := pre) (ys := [xa]) E S fr2 rfl rfl rfl T22 hv_9 one_RSl (by (simp only [List.length_cons, List.length_nil]; omega)) (by (simp only [List.length_cons, List.length_nil]; omega)) ?_)
    clear E a S; rintro a w v_11 xs_12 E hr_13 S
    have ho_14 := S.oneC
    replace S := S.front2
    refine S_x0 (X_store E S rfl rfl (Try.sizeOf22 _) ho_14 ?_)
    clear E a S; rintro a w E S
    refine WL_nil ?_
    refine B_n ?_
    replace S := S.front1
    replace S := S.front1
    replace S := S.front1
    replace S := S.front1
    have S0 := S; clear S; have S := (St.pack [blk b_1 (.cells #[v_11] 22), OwnC 24 1 v_11 (pre ++ [xa]).length xs_12] S0).swap; clear S0
    exact ⟨M_10, _, hM_10, ⟨_, _, rfl, hr_13⟩, S⟩
  · rintro a w M_15 _ D_16 hM_15 ⟨u2, xs2, rfl, fr2⟩ S E
    replace S := S.unpack2
    replace h1 := h1.le hM_15
    replace hr_3 := hr_3.le (RSl_mono RInt_mono) hM_15
    refine B_n ?_
    refine T_n ?_
    refine WP_seq ?_
    refine WP_region ?_
    refine S_v E rfl (R_load E rfl (Try.isAgg22 _) (cell_blk (S.mem (.head _)))) rfl ?_
    clear E a; intro a E
    refine S_v E rfl (R_assign E rfl) rfl ?_
    clear E a; intro a E
    refine WL_nil ?_
    refine T_n ?_
    refine WP_ret ?_
    replace S := S.front1
    have S0 := S; clear S
    obtain ⟨M_17, hM_17, hz_18, S⟩ := S0.freezeR fr2 (RSl_mono RInt_mono) (by (first | omega | (simp; omega) | (simp; done) | (simp_all; omega) | grind))
    clear S0
    replace hz_18 : RdII M_17 u2 l1 := hz_18
    replace h1 := h1.le hM_17
    replace hr_3 := hr_3.le (RSl_mono RInt_mono) hM_17
    replace S := S.drop
    exact F_retM1 E S Try.results143 rfl (fun w S => ⟨_, rfl, M_17, (hM_15.trans hM_17), hz_18, S⟩)
  · rintro _ _ _ _ _ _ _ _ _ hX; exact hX.elim

set_option maxRecDepth 100000 in
set_option maxHeartbeats 4000000 in
theorem slices_CollectL {M : Hp} {v0 : Value} {l0 : List (List Int)} (h0 : SeqV Try.prog v0 M (RSl 1 RInt) l0) (hb : l0.length ≤ 1000000) :
    Pu Try.prog (.func (.func 101) #[] #[]) M [v0] (fun r M' => RdII M' r l0) := by
  refine Pu_enter Try.func101 rfl Try.ntmps101 rfl Try.call101 ?_
  intro a w M1 H hM1 S E
  replace h0 := h0.le hM1
  refine WP_seq ?_
  refine WP_region ?_
  refine S_v E rfl (R_assign E rfl) rfl ?_
  clear E a; intro a E
  refine WL_nil ?_
  refine T_n ?_
  refine WP_seq ?_
  refine WP_region ?_
  refine S_v E rfl (R_move E rfl) rfl ?_
  clear E a; intro a E
  refine S_x (X_pu E S rfl rfl rfl (slices_AppendSeqL h0 (by (first | omega | (simp; omega) | (simp; done) | (simp_all; omega) | grind))) (Hp.le.refl _) ?_)
  clear E a S; rintro a v_2 w M_1 hM_1 hv_2 S E
  replace h0 := h0.le hM_1
  refine S_v E rfl (R_assign E rfl) rfl ?_
  clear E a; intro a E
  refine WL_nil ?_
  refine T_n ?_
  refine WP_ret ?_
  exact F_ret1 E Try.results101 rfl ⟨_, rfl, M_1, hM_1, hv_2, S⟩

set_option maxRecDepth 100000 in
set_option maxHeartbeats 4000000 in
theorem impl_WindowSeq1 {M : Hp} {v0 : Value} {l0 : List Int} {n1 : Nat} (hn : 0 < n1) (hb1 : n1 ≤ 1000000) (hb : l0.length ≤ 1000000) {bx0 bx1 : Nat} (hbx0 : M bx0 = some (.cells #[v0] 24)) (h0 : RdI M v0 l0) (hbx1 : M bx1 = some (.cells #[.int .i64 (n1 : Int)] 3)) :
    Pu Try.prog (.func (.func 100) #[] #[.pointer (some ⟨bx0, 0, none⟩), .pointer (some ⟨bx1, 0, none⟩)]) M [] (fun r M' => RdII M' r (sliL n1 1 l0)) := by
  refine Pu_enter Try.func100 rfl Try.ntmps100 rfl Try.call100 ?_
  intro a w M1 H hM1 S E
  replace hbx0 := hM1.2 _ _ hbx0
  replace hbx1 := hM1.2 _ _ hbx1
  replace h0 := h0.le hM1
  have b0 := h0.bound
  have hsl := sli_len (n := n1) (s := 1) (l := l0) (by omega) hn
  refine WP_seq ?_
  refine WP_region ?_
  refine S_v E rfl (R_assign E rfl) rfl ?_
  clear E a; intro a E
  refine WL_nil ?_
  refine T_n ?_
  refine WP_seq ?_
  have hbx0k0 := hbx0
  have hbx1k0 := hbx1
  replace S := S.mono_heap (w' := World.drew _) rfl
  refine WP_drawn (C := fun x w => agree M1 w) (bf := (fun i => [])) [0, 2, 5] [0, 2, 1, 3, 4, 5] Try.mixed (by kernel_rfl) (fun x hq => S.imm) ?_
  refine D_v E rfl rfl rfl (fun w hC => (R_loadM E rfl Try.isAgg24 hC (cellM_box hbx0k0))) ?_
  clear E a; intro a E
  refine D_v E rfl rfl rfl (fun w hC => (R_loadM E rfl Try.isAgg3 hC (cellM_box hbx1k0))) ?_
  clear E a; intro a E
  refine D_x rfl rfl rfl (X_pu E S rfl rfl rfl (slices_Values h0) (Hp.le.refl _) ?_)
  clear E a S; rintro a v_2 w M_1 hM_1 hv_2 S E
  replace hbx0 := hM_1.2 _ _ hbx0
  replace hbx1 := hM_1.2 _ _ hbx1
  replace h0 := h0.le hM_1
  refine ⟨fun x hq hb => (agree_le hM_1 S.imm), ?_⟩
  refine D_x rfl rfl rfl (X_pu E S rfl rfl rfl (it_Window hv_2 (by first | omega | (simp; done) | (simp; omega)) (by first | omega | (simp; done) | (simp; omega))) (Hp.le.refl _) ?_)
  clear E a S; rintro a v_4 w M_3 hM_3 hv_4 S E
  replace hbx0 := hM_3.2 _ _ hbx0
  replace hbx1 := hM_3.2 _ _ hbx1
  replace h0 := h0.le hM_3
  replace hv_2 := hv_2.le hM_3
  refine ⟨fun x hq hb => (agree_le (hM_1.trans hM_3) S.imm), ?_⟩
  refine D_x rfl rfl rfl (X_pu E S rfl rfl rfl (slices_CollectL hv_4 (by (first | omega | (simp; omega) | (simp; done) | (simp_all; omega) | grind))) (Hp.le.refl _) ?_)
  clear E a S; rintro a v_6 w M_5 hM_5 hv_6 S E
  replace hbx0 := hM_5.2 _ _ hbx0
  replace hbx1 := hM_5.2 _ _ hbx1
  replace h0 := h0.le hM_5
  replace hv_2 := hv_2.le hM_5
  replace hv_4 := hv_4.le hM_5
  refine ⟨fun x hq hb => (agree_le (hM_1.trans (hM_3.trans hM_5)) S.imm), ?_⟩
  refine D_v E rfl rfl rfl (fun w hC => (R_assign E rfl)) ?_
  clear E a; intro a E
  refine D_end (NoP_n ?_)
  refine T_n ?_
  refine WP_ret ?_
  exact F_ret1 E Try.results100 rfl ⟨_, rfl, M_5, (hM_1.trans (hM_3.trans hM_5)), hv_6, S⟩

set_option maxRecDepth 100000 in
set_option maxHeartbeats 4000000 in
theorem impl_WindowSeq {M : Hp} {v0 : Value} {l0 : List Int} (h0 : RdI M v0 l0){n1 : Nat} (hn : 0 < n1) (hb1 : n1 ≤ 1000000) (hb : l0.length ≤ 1000000) :
    Pu Try.prog (.func (.func 43) #[] #[]) M [v0, .int .i64 ((n1 : Nat) : Int)] (fun r M' => ∃ t0, r = .tuple #[t0, .bool true] ∧ RdII M' t0 (sliL n1 1 l0)) := by
  refine Pu_enter Try.func43 rfl Try.ntmps43 rfl Try.call43 ?_
  intro a w M1 H hM1 S E
  replace h0 := h0.le hM1
  have b0 := h0.bound
  refine WP_seq ?_
  refine WP_region ?_
  refine S_x (X_box (cs := #[v0]) E S rfl rfl (cells_one (RdS.one' h0)) ?_)
  clear E a S; rintro a w b_1 E S
  obtain ⟨M_2, hM_2, hb_1, S⟩ := S.freezeB
  replace h0 := h0.le hM_2
  refine S_x (X_box (cs := #[.int .i64 ((n1 : Nat) : Int)]) E S rfl rfl rfl ?_)
  clear E a S; rintro a w b_3 E S
  obtain ⟨M_4, hM_4, hb_3, S⟩ := S.freezeB
  replace h0 := h0.le hM_4
  replace hb_1 := hM_4.2 _ _ hb_1
  refine S_v E rfl (R_assign E rfl) rfl ?_
  clear E a; intro a E
  refine S_v E rfl (R_assign E rfl) rfl ?_
  clear E a; intro a E
  refine WL_nil ?_
  refine T_n ?_
  refine WP_seq ?_
  refine WP_region ?_
  refine S_v E rfl (R_makeFunc E rfl rfl) rfl ?_
  clear E a; intro a E
  refine S_x (X_pu E S rfl rfl rfl (impl_trieds ⟨rfl, impl_WindowSeq1  (by omega) (by omega) (by first | omega | (simp; done) | (simp; omega)) hb_1 h0 hb_3⟩) (Hp.le.refl _) ?_)
  clear E a S; rintro a _ w M_5 hM_5 ⟨v_6, rfl, hv_6⟩ S E
  replace h0 := h0.le hM_5
  replace hb_1 := hM_5.2 _ _ hb_1
  replace hb_3 := hM_5.2 _ _ hb_3
  refine S_v E rfl (R_extract E rfl rfl) rfl ?_
  clear E a; intro a E
  refine S_v E rfl (R_extract E rfl rfl) rfl ?_
  clear E a; intro a E
  refine S_v E rfl (R_assign E rfl) rfl ?_
  clear E a; intro a E
  refine S_v E rfl (R_assign E rfl) rfl ?_
  clear E a; intro a E
  refine WL_nil ?_
  refine T_n ?_
  refine WP_ret ?_
  exact F_ret2 E Try.results43 rfl rfl ⟨_, rfl, M_5, (hM_2.trans (hM_4.trans hM_5)), ⟨_, (by first | rfl | (simp; done) | (simp_all; done)), (by rw [show (sliL n1 1 l0) = (sliL n1 1 l0) from by ((try clear S); (try clear E); first | rfl | (simp; done) | (simp_all; done) | grind [List.take_add_one])]; exact hv_6)⟩, S⟩

set_option maxRecDepth 100000 in
set_option maxHeartbeats 4000000 in
theorem impl_Sliding1 {M : Hp} {v0 : Value} {l0 : List Int} {n1 n2 : Nat} (hn : 0 < n1) (hs : 0 < n2) (hb1 : n1 ≤ 1000000) (hb2 : n2 ≤ 1000000) (hb : l0.length ≤ 1000000) {bx0 bx1 bx2 : Nat} (hbx0 : M bx0 = some (.cells #[v0] 24)) (h0 : RdI M v0 l0) (hbx1 : M bx1 = some (.cells #[.int .i64 (n1 : Int)] 3)) (hbx2 : M bx2 = some (.cells #[.int .i64 (n2 : Int)] 3)) :
    Pu Try.prog (.func (.func 103) #[] #[.pointer (some ⟨bx0, 0, none⟩), .pointer (some ⟨bx1, 0, none⟩), .pointer (some ⟨bx2, 0, none⟩)]) M [] (fun r M' => RdII M' r (sliL n1 n2 l0)) := by
  refine Pu_enter Try.func103 rfl Try.ntmps103 rfl Try.call103 ?_
  intro a w M1 H hM1 S E
  replace hbx0 := hM1.2 _ _ hbx0
  replace hbx1 := hM1.2 _ _ hbx1
  replace hbx2 := hM1.2 _ _ hbx2
  replace h0 := h0.le hM1
  have b0 := h0.bound
  have hsl := sli_len (n := n1) (s := n2) (l := l0) (by omega) hn
  refine WP_seq ?_
  refine WP_region ?_
  refine S_v E rfl (R_assign E rfl) rfl ?_
  clear E a; intro a E
  refine WL_nil ?_
  refine T_n ?_
  refine WP_seq ?_
  refine WP_region ?_
  refine S_v E rfl (R_loadM E rfl Try.isAgg24 S.imm (cellM_box hbx0)) rfl ?_
  clear E a; intro a E
  refine S_v E rfl (R_loadM E rfl Try.isAgg3 S.imm (cellM_box hbx1)) rfl ?_
  clear E a; intro a E
  refine S_v E rfl (R_loadM E rfl Try.isAgg3 S.imm (cellM_box hbx2)) rfl ?_
  clear E a; intro a E
  refine S_x (X_pu E S rfl rfl rfl (lo_Sliding h0 (by first | omega | (simp; done) | (simp; omega)) (by first | omega | (simp; done) | (simp; omega)) (by first | omega | (simp; done) | (simp; omega)) (by first | omega | (simp; done) | (simp; omega)) (by first | omega | (simp; done) | (simp; omega))) (Hp.le.refl _) ?_)
  clear E a S; rintro a v_2 w M_1 hM_1 hv_2 S E
  replace hbx0 := hM_1.2 _ _ hbx0
  replace hbx1 := hM_1.2 _ _ hbx1
  replace hbx2 := hM_1.2 _ _ hbx2
  replace h0 := h0.le hM_1
  refine S_v E rfl (R_assign E rfl) rfl ?_
  clear E a; intro a E
  refine WL_nil ?_
  refine T_n ?_
  refine WP_ret ?_
  exact F_ret1 E Try.results103 rfl ⟨_, rfl, M_1, hM_1, hv_2, S⟩

set_option maxRecDepth 100000 in
set_option maxHeartbeats 4000000 in
theorem impl_Sliding {M : Hp} {v0 : Value} {l0 : List Int} (h0 : RdI M v0 l0){n1 n2 : Nat} (hn : 0 < n1) (hs : 0 < n2) (hb1 : n1 ≤ 1000000) (hb2 : n2 ≤ 1000000) (hb : l0.length ≤ 1000000) :
    Pu Try.prog (.func (.func 44) #[] #[]) M [v0, .int .i64 ((n1 : Nat) : Int), .int .i64 ((n2 : Nat) : Int)] (fun r M' => ∃ t0, r = .tuple #[t0, .bool true] ∧ RdII M' t0 (sliL n1 n2 l0)) := by
  refine Pu_enter Try.func44 rfl Try.ntmps44 rfl Try.call44 ?_
  intro a w M1 H hM1 S E
  replace h0 := h0.le hM1
  have b0 := h0.bound
  refine WP_seq ?_
  refine WP_region ?_
  refine S_x (X_box (cs := #[v0]) E S rfl rfl (cells_one (RdS.one' h0)) ?_)
  clear E a S; rintro a w b_1 E S
  obtain ⟨M_2, hM_2, hb_1, S⟩ := S.freezeB
  replace h0 := h0.le hM_2
  refine S_x (X_box (cs := #[.int .i64 ((n1 : Nat) : Int)]) E S rfl rfl rfl ?_)
  clear E a S; rintro a w b_3 E S
  obtain ⟨M_4, hM_4, hb_3, S⟩ := S.freezeB
  replace h0 := h0.le hM_4
  replace hb_1 := hM_4.2 _ _ hb_1
  refine S_x (X_box (cs := #[.int .i64 ((n2 : Nat) : Int)]) E S rfl rfl rfl ?_)
  clear E a S; rintro a w b_5 E S
  obtain ⟨M_6, hM_6, hb_5, S⟩ := S.freezeB
  replace h0 := h0.le hM_6
  replace hb_1 := hM_6.2 _ _ hb_1
  replace hb_3 := hM_6.2 _ _ hb_3
  refine S_v E rfl (R_assign E rfl) rfl ?_
  clear E a; intro a E
  refine S_v E rfl (R_assign E rfl) rfl ?_
  clear E a; intro a E
  refine WL_nil ?_
  refine T_n ?_
  refine WP_seq ?_
  refine WP_region ?_
  refine S_v E rfl (R_makeFunc E rfl rfl) rfl ?_
  clear E a; intro a E
  refine S_x (X_pu E S rfl rfl rfl (impl_trieds ⟨rfl, impl_Sliding1  (by omega) (by omega) (by omega) (by omega) (by first | omega | (simp; done) | (simp; omega)) hb_1 h0 hb_3 hb_5⟩) (Hp.le.refl _) ?_)
  clear E a S; rintro a _ w M_7 hM_7 ⟨v_8, rfl, hv_8⟩ S E
  replace h0 := h0.le hM_7
  replace hb_1 := hM_7.2 _ _ hb_1
  replace hb_3 := hM_7.2 _ _ hb_3
  replace hb_5 := hM_7.2 _ _ hb_5
  refine S_v E rfl (R_extract E rfl rfl) rfl ?_
  clear E a; intro a E
  refine S_v E rfl (R_extract E rfl rfl) rfl ?_
  clear E a; intro a E
  refine S_v E rfl (R_assign E rfl) rfl ?_
  clear E a; intro a E
  refine S_v E rfl (R_assign E rfl) rfl ?_
  clear E a; intro a E
  refine WL_nil ?_
  refine T_n ?_
  refine WP_ret ?_
  exact F_ret2 E Try.results44 rfl rfl ⟨_, rfl, M_7, (hM_2.trans (hM_4.trans (hM_6.trans hM_7))), ⟨_, (by first | rfl | (simp; done) | (simp_all; done)), (by rw [show (sliL n1 n2 l0) = (sliL n1 n2 l0) from by ((try clear S); (try clear E); first | rfl | (simp; done) | (simp_all; done) | grind [List.take_add_one])]; exact hv_8)⟩, S⟩

set_option maxRecDepth 100000 in
set_option maxHeartbeats 4000000 in
theorem impl_SlidingSeq1 {M : Hp} {v0 : Value} {l0 : List Int} {n1 n2 : Nat} (hn : 0 < n1) (hs : 0 < n2) (hb1 : n1 ≤ 1000000) (hb2 : n2 ≤ 1000000) (hb : l0.length ≤ 1000000) {bx0 bx1 bx2 : Nat} (hbx0 : M bx0 = some (.cells #[v0] 24)) (h0 : RdI M v0 l0) (hbx1 : M bx1 = some (.cells #[.int .i64 (n1 : Int)] 3)) (hbx2 : M bx2 = some (.cells #[.int .i64 (n2 : Int)] 3)) :
    Pu Try.prog (.func (.func 105) #[] #[.pointer (some ⟨bx0, 0, none⟩), .pointer (some ⟨bx1, 0, none⟩), .pointer (some ⟨bx2, 0, none⟩)]) M [] (fun r M' => RdII M' r (sliL n1 n2 l0)) := by
  refine Pu_enter Try.func105 rfl Try.ntmps105 rfl Try.call105 ?_
  intro a w M1 H hM1 S E
  replace hbx0 := hM1.2 _ _ hbx0
  replace hbx1 := hM1.2 _ _ hbx1
  replace hbx2 := hM1.2 _ _ hbx2
  replace h0 := h0.le hM1
  have b0 := h0.bound
  have hsl := sli_len (n := n1) (s := n2) (l := l0) (by omega) hn
  refine WP_seq ?_
  refine WP_region ?_
  refine S_v E rfl (R_assign E rfl) rfl ?_
  clear E a; intro a E
  refine WL_nil ?_
  refine T_n ?_
  refine WP_seq ?_
  have hbx0k0 := hbx0
  have hbx1k0 := hbx1
  have hbx2k0 := hbx2
  replace S := S.mono_heap (w' := World.drew _) rfl
  refine WP_drawn (C := fun x w => agree M1 w) (bf := (fun i => [])) [0, 2, 3, 6] [0, 2, 3, 1, 4, 5, 6] Try.mixed (by kernel_rfl) (fun x hq => S.imm) ?_
  refine D_v E rfl rfl rfl (fun w hC => (R_loadM E rfl Try.isAgg24 hC (cellM_box hbx0k0))) ?_
  clear E a; intro a E
  refine D_v E rfl rfl rfl (fun w hC => (R_loadM E rfl Try.isAgg3 hC (cellM_box hbx1k0))) ?_
  clear E a; intro a E
  refine D_v E rfl rfl rfl (fun w hC => (R_loadM E rfl Try.isAgg3 hC (cellM_box hbx2k0))) ?_
  clear E a; intro a E
  refine D_x rfl rfl rfl (X_pu E S rfl rfl rfl (slices_Values h0) (Hp.le.refl _) ?_)
  clear E a S; rintro a v_2 w M_1 hM_1 hv_2 S E
  replace hbx0 := hM_1.2 _ _ hbx0
  replace hbx1 := hM_1.2 _ _ hbx1
  replace hbx2 := hM_1.2 _ _ hbx2
  replace h0 := h0.le hM_1
  refine ⟨fun x hq hb => (agree_le hM_1 S.imm), ?_⟩
  refine D_x rfl rfl rfl (X_pu E S rfl rfl rfl (it_Sliding hv_2 (by first | omega | (simp; done) | (simp; omega)) (by first | omega | (simp; done) | (simp; omega)) (by first | omega | (simp; done) | (simp; omega)) (by first | omega | (simp; done) | (simp; omega))) (Hp.le.refl _) ?_)
  clear E a S; rintro a v_4 w M_3 hM_3 hv_4 S E
  replace hbx0 := hM_3.2 _ _ hbx0
  replace hbx1 := hM_3.2 _ _ hbx1
  replace hbx2 := hM_3.2 _ _ hbx2
  replace h0 := h0.le hM_3
  replace hv_2 := hv_2.le hM_3
  refine ⟨fun x hq hb => (agree_le (hM_1.trans hM_3) S.imm), ?_⟩
  refine D_x rfl rfl rfl (X_pu E S rfl rfl rfl (slices_CollectL hv_4 (by (first | omega | (simp; omega) | (simp; done) | (simp_all; omega) | grind))) (Hp.le.refl _) ?_)
  clear E a S; rintro a v_6 w M_5 hM_5 hv_6 S E
  replace hbx0 := hM_5.2 _ _ hbx0
  replace hbx1 := hM_5.2 _ _ hbx1
  replace hbx2 := hM_5.2 _ _ hbx2
  replace h0 := h0.le hM_5
  replace hv_2 := hv_2.le hM_5
  replace hv_4 := hv_4.le hM_5
  refine ⟨fun x hq hb => (agree_le (hM_1.trans (hM_3.trans hM_5)) S.imm), ?_⟩
  refine D_v E rfl rfl rfl (fun w hC => (R_assign E rfl)) ?_
  clear E a; intro a E
  refine D_end (NoP_n ?_)
  refine T_n ?_
  refine WP_ret ?_
  exact F_ret1 E Try.results105 rfl ⟨_, rfl, M_5, (hM_1.trans (hM_3.trans hM_5)), hv_6, S⟩

set_option maxRecDepth 100000 in
set_option maxHeartbeats 4000000 in
theorem impl_SlidingSeq {M : Hp} {v0 : Value} {l0 : List Int} (h0 : RdI M v0 l0){n1 n2 : Nat} (hn : 0 < n1) (hs : 0 < n2) (hb1 : n1 ≤ 1000000) (hb2 : n2 ≤ 1000000) (hb : l0.length ≤ 1000000) :
    Pu Try.prog (.func (.func 45) #[] #[]) M [v0, .int .i64 ((n1 : Nat) : Int), .int .i64 ((n2 : Nat) : Int)] (fun r M' => ∃ t0, r = .tuple #[t0, .bool true] ∧ RdII M' t0 (sliL n1 n2 l0)) := by
  refine Pu_enter Try.func45 rfl Try.ntmps45 rfl Try.call45 ?_
  intro a w M1 H hM1 S E
  replace h0 := h0.le hM1
  have b0 := h0.bound
  refine WP_seq ?_
  refine WP_region ?_
  refine S_x (X_box (cs := #[v0]) E S rfl rfl (cells_one (RdS.one' h0)) ?_)
  clear E a S; rintro a w b_1 E S
  obtain ⟨M_2, hM_2, hb_1, S⟩ := S.freezeB
  replace h0 := h0.le hM_2
  refine S_x (X_box (cs := #[.int .i64 ((n1 : Nat) : Int)]) E S rfl rfl rfl ?_)
  clear E a S; rintro a w b_3 E S
  obtain ⟨M_4, hM_4, hb_3, S⟩ := S.freezeB
  replace h0 := h0.le hM_4
  replace hb_1 := hM_4.2 _ _ hb_1
  refine S_x (X_box (cs := #[.int .i64 ((n2 : Nat) : Int)]) E S rfl rfl rfl ?_)
  clear E a S; rintro a w b_5 E S
  obtain ⟨M_6, hM_6, hb_5, S⟩ := S.freezeB
  replace h0 := h0.le hM_6
  replace hb_1 := hM_6.2 _ _ hb_1
  replace hb_3 := hM_6.2 _ _ hb_3
  refine S_v E rfl (R_assign E rfl) rfl ?_
  clear E a; intro a E
  refine S_v E rfl (R_assign E rfl) rfl ?_
  clear E a; intro a E
  refine WL_nil ?_
  refine T_n ?_
  refine WP_seq ?_
  refine WP_region ?_
  refine S_v E rfl (R_makeFunc E rfl rfl) rfl ?_
  clear E a; intro a E
  refine S_x (X_pu E S rfl rfl rfl (impl_trieds ⟨rfl, impl_SlidingSeq1  (by omega) (by omega) (by omega) (by omega) (by first | omega | (simp; done) | (simp; omega)) hb_1 h0 hb_3 hb_5⟩) (Hp.le.refl _) ?_)
  clear E a S; rintro a _ w M_7 hM_7 ⟨v_8, rfl, hv_8⟩ S E
  replace h0 := h0.le hM_7
  replace hb_1 := hM_7.2 _ _ hb_1
  replace hb_3 := hM_7.2 _ _ hb_3
  replace hb_5 := hM_7.2 _ _ hb_5
  refine S_v E rfl (R_extract E rfl rfl) rfl ?_
  clear E a; intro a E
  refine S_v E rfl (R_extract E rfl rfl) rfl ?_
  clear E a; intro a E
  refine S_v E rfl (R_assign E rfl) rfl ?_
  clear E a; intro a E
  refine S_v E rfl (R_assign E rfl) rfl ?_
  clear E a; intro a E
  refine WL_nil ?_
  refine T_n ?_
  refine WP_ret ?_
  exact F_ret2 E Try.results45 rfl rfl ⟨_, rfl, M_7, (hM_2.trans (hM_4.trans (hM_6.trans hM_7))), ⟨_, (by first | rfl | (simp; done) | (simp_all; done)), (by rw [show (sliL n1 n2 l0) = (sliL n1 n2 l0) from by ((try clear S); (try clear E); first | rfl | (simp; done) | (simp_all; done) | grind [List.take_add_one])]; exact hv_8)⟩, S⟩

set_option maxRecDepth 100000 in
set_option maxHeartbeats 4000000 in
theorem spec_Sliding {M : Hp} {v0 : Value} {l0 : List Int} (h0 : RdI M v0 l0){n1 n2 : Nat} (hn : 0 < n1) (hs : 0 < n2) (hb1 : n1 ≤ 1000000) (hb2 : n2 ≤ 1000000) (hb : l0.length ≤ 1000000) :
    Pu Try.prog (.func (.func 47) #[] #[]) M [v0, .int .i64 ((n1 : Nat) : Int), .int .i64 ((n2 : Nat) : Int)] (fun r M' => ∃ t0, r = .tuple #[t0, .bool true] ∧ RdII M' t0 (sliL n1 n2 l0)) := by
  refine Pu_enter Try.func47 rfl Try.ntmps47 rfl Try.call47 ?_
  intro a w M1 H hM1 S E
  replace h0 := h0.le hM1
  have b0 := h0.bound
  refine WP_seq ?_
  refine WP_region ?_
  refine S_v E rfl (R_assign E rfl) rfl ?_
  clear E a; intro a E
  refine S_v E rfl (R_assign E rfl) rfl ?_
  clear E a; intro a E
  refine WL_nil ?_
  refine T_n ?_
  refine WP_seq ?_
  refine WP_seq ?_
  refine WP_region ?_
  refine S_v E rfl (R_move E rfl) rfl ?_
  clear E a; intro a E
  refine S_v E rfl (R_leq E rfl rfl) rfl ?_
  clear E a; intro a E
  refine S_v E rfl (R_move E rfl) rfl ?_
  clear E a; intro a E
  refine split_bool (decide (((n1 : Nat) : Int) ≤ 0)) (fun hc_1 => ?_) (fun hc_1 => ?_)
  · replace E := E.val (t := 11) rfl hc_1
    replace E := E.val (t := 12) rfl hc_1
    replace hc_1 := of_decide_eq_true hc_1
    refine WL_guard_no E rfl rfl rfl rfl fun a E => ?_
    refine WL_guard_no E rfl rfl rfl rfl fun a E => ?_
    refine S_v E rfl (R_pickT E rfl rfl) rfl ?_
    clear E a; intro a E
    refine WL_nil ?_
    refine T_n ?_
    refine WP_condT E rfl rfl ?_
    refine WP_seq ?_
    refine WP_region ?_
    refine S_v E rfl (R_assign E rfl) rfl ?_
    clear E a; intro a E
    refine S_v E rfl (R_assign E rfl) rfl ?_
    clear E a; intro a E
    refine WL_nil ?_
    refine T_n ?_
    refine WP_ret ?_
    refine T_r ?_
    exact F_ret2 E Try.results47 rfl rfl ⟨_, rfl, M1, (Hp.le.refl _), ⟨_, (by (exfalso; omega)), (by rw [show sliL n1 n2 l0 = [] from by (exfalso; omega)]; exact RdS.nil _)⟩, S⟩
  · replace E := E.val (t := 11) rfl hc_1
    replace E := E.val (t := 12) rfl hc_1
    replace hc_1 := of_decide_eq_false hc_1
    refine WL_guard_yes E rfl rfl ?_
    refine S_v E rfl (R_move E rfl) rfl ?_
    clear E a; intro a E
    refine WL_guard_yes E rfl rfl ?_
    refine S_v E rfl (R_leq E rfl rfl) rfl ?_
    clear E a; intro a E
    refine S_v E rfl (R_pickF E rfl rfl) rfl ?_
    clear E a; intro a E
    refine WL_nil ?_
    refine T_n ?_
    refine WP_cond E rfl (fun hc_2 => ?_) (fun hc_2 => ?_)
    · replace hc_2 := of_decide_eq_true hc_2
      refine WP_seq ?_
      refine WP_region ?_
      refine S_v E rfl (R_assign E rfl) rfl ?_
      clear E a; intro a E
      refine S_v E rfl (R_assign E rfl) rfl ?_
      clear E a; intro a E
      refine WL_nil ?_
      refine T_n ?_
      refine WP_ret ?_
      refine T_r ?_
      exact F_ret2 E Try.results47 rfl rfl ⟨_, rfl, M1, (Hp.le.refl _), ⟨_, (by (exfalso; omega)), (by rw [show sliL n1 n2 l0 = [] from by (exfalso; omega)]; exact RdS.nil _)⟩, S⟩
    · replace hc_2 := of_decide_eq_false hc_2
      refine WP_skip ?_
      refine T_n ?_
      refine WP_seq ?_
      refine WP_region ?_
      refine S_v E rfl (R_assign E rfl) rfl ?_
      clear E a; intro a E
      refine WL_nil ?_
      refine T_n ?_
      refine WP_seq ?_
      refine WP_seq ?_
      refine WP_region ?_
      refine S_v E rfl (R_assign E rfl) rfl ?_
      clear E a; intro a E
      refine WL_nil ?_
      refine T_n ?_
      refine WP_block ?_
      replace S : St w M1 (OwnC 24 1 (.slice none 0 0) ([] : List (List Int)).length [] :: _) := S.ownNil
      have hr_4 : RowsR (RSl 1 RInt) 1 M1 ([] : List (List Int)) [] := RowsR.nil
      have hre : ([] : List (List Int)) = winL n1 (min n2 l0.length) l0 0 := by first | rfl | (rw [sub_win]; exact winL_succ _ _ _ _) | exact winL_succ _ _ _ _
      replace S := S.reR hre
      replace hr_4 := hr_4.eq hre
      clear hre
      refine WP_loop (γ := Nat) (fun (k : Nat) a w => ∃ (M_5 : Hp) (u8 : Value) (xs8 : List Value), Hp.le M1 M_5 ∧ St w M_5 (OwnC 24 1 u8 (winL n1 (min n2 l0.length) l0 k).length xs8 :: H) ∧ Env a 44 [] [(0, v0), (1, .int .i64 ((n1 : Nat) : Int)), (2, .int .i64 ((n2 : Nat) : Int)), (8, u8), (9, .int .i64 ((k * min n2 l0.length : Nat) : Int))] ∧ (IsV n1 (min n2 l0.length) l0.length k) ∧ (k ≤ l0.length) ∧ RowsR (RSl 1 RInt) 1 M_5 (winL n1 (min n2 l0.length) l0 k) xs8) (fun k => l0.length + 1 - k) 0 ⟨M1, _, _, Hp.le.refl _, S, E.keep ⟨rfl, rfl, rfl, rfl, look_nat (i := 0) rfl (by (simp)), trivial⟩, (by exact IsV_zero _ _ _), (by omega), hr_4⟩ ?_
      try clear E
      try clear S
      try clear a
      try clear w
      rintro k a w ⟨M_5, u8, xs8, hM_5, S, E, hL0_0, hL0_1, hr8⟩
      replace h0 := h0.le hM_5
      have hmp : 0 < l0.length → 0 < min n2 l0.length := fun h => by omega
      have hkk : 0 < l0.length → k ≤ k * (min n2 l0.length) := fun h => Nat.le_mul_of_pos_right k (hmp h)
      have hwl := winL_len n1 (min n2 l0.length) l0 k
      refine WP_seq ?_
      refine WP_seq ?_
      refine WP_region ?_
      refine S_v E rfl (R_move E rfl) rfl ?_
      clear E a; intro a E
      refine S_v E rfl (R_move E rfl) rfl ?_
      clear E a; intro a E
      refine S_v E rfl (R_lenV E rfl T24 h0.len) rfl ?_
      clear E a; intro a E
      refine S_v E rfl (R_lss E rfl rfl) rfl ?_
      clear E a; intro a E
      refine S_v E rfl (R_move E rfl) rfl ?_
      clear E a; intro a E
      refine split_bool (decide (((k * min n2 l0.length : Nat) : Int) < (((l0).length : Nat) : Int))) (fun hc_6 => ?_) (fun hc_6 => ?_)
      · replace E := E.val (t := 19) rfl hc_6
        replace E := E.val (t := 20) rfl hc_6
        replace hc_6 := of_decide_eq_true hc_6
        refine WL_guard_yes E rfl rfl ?_
        refine S_v E rfl (R_move E rfl) rfl ?_
        clear E a; intro a E
        refine WL_guard_yes E rfl rfl ?_
        refine S_v E rfl (R_move E rfl) rfl ?_
        clear E a; intro a E
        refine WL_guard_yes E rfl rfl ?_
        refine S_v E rfl (R_lenV E rfl T24 h0.len) rfl ?_
        clear E a; intro a E
        refine WL_guard_yes E rfl rfl ?_
        refine S_v E rfl (R_move E rfl) rfl ?_
        clear E a; intro a E
        refine WL_guard_yes E rfl rfl ?_
        refine S_v E rfl (R_subx (m := (((l0).length - (k * min n2 l0.length) : Nat) : Int)) E rfl rfl (by omega) (by omega)) rfl ?_
        clear E a; intro a E
        refine WL_guard_yes E rfl rfl ?_
        refine S_v E rfl (R_leq E rfl rfl) rfl ?_
        clear E a; intro a E
        refine S_v E rfl (R_pickT E rfl rfl) rfl ?_
        clear E a; intro a E
        refine WL_nil ?_
        refine T_n ?_
        refine WP_cond E rfl (fun hc_7 => ?_) (fun hc_7 => ?_)
        · replace hc_7 := of_decide_eq_true hc_7
          refine WP_skip ?_
          refine T_n ?_
          refine WP_seq ?_
          refine WP_block ?_
          refine WP_region ?_
          refine S_v E rfl (R_move E rfl) rfl ?_
          clear E a; intro a E
          refine S_v E rfl (R_move E rfl) rfl ?_
          clear E a; intro a E
          refine S_v E rfl (R_move E rfl) rfl ?_
          clear E a; intro a E
          refine S_v E rfl (R_move E rfl) rfl ?_
          clear E a; intro a E
          refine S_v E rfl (R_move E rfl) rfl ?_
          clear E a; intro a E
          refine S_v E rfl (R_addx (m := ((k * min n2 l0.length + n1 : Nat) : Int)) E rfl rfl (by omega) (by omega)) rfl ?_
          clear E a; intro a E
          obtain ⟨v_8, sv_8, hv_8⟩ := h0.subv (k * min n2 l0.length) (k * min n2 l0.length + n1) (by first | omega | (simp; done) | (simp; omega) | (simp_all; omega)) (by first | omega | (simp; done) | (simp; omega) | (simp_all; omega))
          replace hv_8 : RdI M_5 v_8 (((l0).take (k * min n2 l0.length + n1)).drop (k * min n2 l0.length)) := hv_8
          refine S_v E rfl (R_sliceLH E rfl rfl rfl T24 sv_8 (by omega) (by omega)) rfl ?_
          clear E a; intro a E
          refine S_x (X_buildM (R := RSl 1 RInt) (vs := [v_8]) (xs := [((l0).take (k * min n2 l0.length + n1)).drop (k * min n2 l0.length)]) (RSl_mono RInt_mono) E S rfl T22 rfl rfl rfl (by intro u hu; simp only [List.mem_cons, List.not_mem_nil, or_false] at hu; rcases hu with rfl <;> first | exact RdI.one hv_8 | rfl) rfl (rowsC (R := RSl 1 RInt) (RdI.row hv_8) rowsN) ?_)
          clear E a S; rintro a v_9 w M_10 hM_10 hv_9 S E
          replace hv_9 : RdII M_10 v_9 [((l0).take (k * min n2 l0.length + n1)).drop (k * min n2 l0.length)] := hv_9
          replace h0 := h0.le hM_10
          replace hr8 := hr8.le (RSl_mono RInt_mono) hM_10
          replace hv_8 := hv_8.le hM_10
          refine S_x (X_appendR (R := (RSl 1 RInt)) (zs := winL n1 (min n2 l0.length) l0 k) (ys := [((l0).take (k * min n2 l0.length + n1)).drop (k * min n2 l0.length)]) E S hr8 rfl rfl rfl T22 hv_9 one_RSl (by (simp [winL_len]; omega)) (by (simp [winL_len]; omega)) ?_)
          clear E a S; rintro a w v_11 xs_12 E hr_13 S
          refine S_v E rfl (R_assign E rfl) rfl ?_
          clear E a; intro a E
          refine WL_nil ?_
          refine B_n ?_
          refine T_n ?_
          refine WP_region ?_
          refine S_v E rfl (R_move E rfl) rfl ?_
          clear E a; intro a E
          refine S_v E rfl (R_move E rfl) rfl ?_
          clear E a; intro a E
          refine S_v E rfl (R_move E rfl) rfl ?_
          clear E a; intro a E
          refine S_v E rfl (R_lenV E rfl T24 h0.len) rfl ?_
          clear E a; intro a E
          refine S_v E rfl (R_min (m := ((min n2 ((l0).length) : Nat) : Int)) E rfl rfl (by omega)) rfl ?_
          clear E a; intro a E
          refine S_v E rfl (R_addx (m := ((k * min n2 l0.length + min n2 ((l0).length) : Nat) : Int)) E rfl rfl (by omega) (by omega)) rfl ?_
          clear E a; intro a E
          refine S_v E rfl (R_assign E rfl) rfl ?_
          clear E a; intro a E
          refine WL_nil ?_
          refine T_n ?_
          have hre : (winL n1 (min n2 l0.length) l0 k) ++ [((l0).take (k * min n2 l0.length + n1)).drop (k * min n2 l0.length)] = winL n1 (min n2 l0.length) l0 (k + 1) := by first | rfl | (rw [sub_win]; exact winL_succ _ _ _ _) | exact winL_succ _ _ _ _
          replace S := S.reR hre
          replace hr_13 := hr_13.eq hre
          clear hre
          exact ⟨k + 1, ⟨M_10, _, _, (hM_5.trans hM_10), S, E.keep ⟨rfl, rfl, rfl, rfl, look_nat (i := k * min n2 l0.length + min n2 ((l0).length)) rfl (by (rw [Nat.succ_mul])), trivial⟩, (by exact IsV_succ (by omega)), (by omega), hr_13⟩, by omega⟩
        · replace hc_7 := of_decide_eq_false hc_7
          refine WP_exit ?_
          refine T_x ?_
          refine T_x ?_
          refine B_x ?_
          refine T_n ?_
          refine WP_seq ?_
          refine WP_region ?_
          refine S_v E rfl (R_move E rfl) rfl ?_
          clear E a; intro a E
          refine S_v E rfl (R_assign E rfl) rfl ?_
          clear E a; intro a E
          refine S_v E rfl (R_assign E rfl) rfl ?_
          clear E a; intro a E
          refine WL_nil ?_
          refine T_n ?_
          refine WP_ret ?_
          have S0 := S; clear S
          obtain ⟨M_14, hM_14, hz_15, S⟩ := S0.freezeR hr8 (RSl_mono RInt_mono) (by (first | omega | (simp [winL_len]; done) | (simp [winL_len]; omega) | (simp; omega)))
          clear S0
          replace hz_15 : RdII M_14 u8 (winL n1 (min n2 l0.length) l0 k) := hz_15
          replace h0 := h0.le hM_14
          exact F_ret2 E Try.results47 rfl rfl ⟨_, rfl, M_14, (hM_5.trans hM_14), ⟨_, (by first | rfl | (simp; done) | (simp_all; done)), (by rw [show (sliL n1 n2 l0) = (winL n1 (min n2 l0.length) l0 k) from by (first | exact (spw_end hn hs (by assumption) (by omega)).symm | exact spw_end hn hs (by assumption) (by omega))]; exact hz_15)⟩, S⟩
      · replace E := E.val (t := 19) rfl hc_6
        replace E := E.val (t := 20) rfl hc_6
        replace hc_6 := of_decide_eq_false hc_6
        refine WL_guard_no E rfl rfl rfl rfl fun a E => ?_
        refine WL_guard_no E rfl rfl rfl rfl fun a E => ?_
        refine WL_guard_no E rfl rfl rfl rfl fun a E => ?_
        refine WL_guard_no E rfl rfl rfl rfl fun a E => ?_
        refine WL_guard_no E rfl rfl rfl rfl fun a E => ?_
        refine WL_guard_no E rfl rfl rfl rfl fun a E => ?_
        refine S_v E rfl (R_pickF E rfl rfl) rfl ?_
        clear E a; intro a E
        refine WL_nil ?_
        refine T_n ?_
        refine WP_condF E rfl rfl ?_
        refine WP_exit ?_
        refine T_x ?_
        refine T_x ?_
        refine B_x ?_
        refine T_n ?_
        refine WP_seq ?_
        refine WP_region ?_
        refine S_v E rfl (R_move E rfl) rfl ?_
        clear E a; intro a E
        refine S_v E rfl (R_assign E rfl) rfl ?_
        clear E a; intro a E
        refine S_v E rfl (R_assign E rfl) rfl ?_
        clear E a; intro a E
        refine WL_nil ?_
        refine T_n ?_
        refine WP_ret ?_
        have S0 := S; clear S
        obtain ⟨M_16, hM_16, hz_17, S⟩ := S0.freezeR hr8 (RSl_mono RInt_mono) (by (first | omega | (simp [winL_len]; done) | (simp [winL_len]; omega) | (simp; omega)))
        clear S0
        replace hz_17 : RdII M_16 u8 (winL n1 (min n2 l0.length) l0 k) := hz_17
        replace h0 := h0.le hM_16
        exact F_ret2 E Try.results47 rfl rfl ⟨_, rfl, M_16, (hM_5.trans hM_16), ⟨_, (by first | rfl | (simp; done) | (simp_all; done)), (by rw [show (sliL n1 n2 l0) = (winL n1 (min n2 l0.length) l0 k) from by (first | exact (spw_end hn hs (by assumption) (by omega)).symm | exact spw_end hn hs (by assumption) (by omega))]; exact hz_17)⟩, S⟩

set_option maxRecDepth 100000 in
set_option maxHeartbeats 4000000 in
theorem spec_Window {M : Hp} {v0 : Value} {l0 : List Int} (h0 : RdI M v0 l0){n1 : Nat} (hn : 0 < n1) (hb1 : n1 ≤ 1000000) (hb : l0.length ≤ 1000000) :
    Pu Try.prog (.func (.func 46) #[] #[]) M [v0, .int .i64 ((n1 : Nat) : Int)] (fun r M' => ∃ t0, r = .tuple #[t0, .bool true] ∧ RdII M' t0 (sliL n1 1 l0)) := by
  refine Pu_enter Try.func46 rfl Try.ntmps46 rfl Try.call46 ?_
  intro a w M1 H hM1 S E
  replace h0 := h0.le hM1
  have b0 := h0.bound
  refine WP_seq ?_
  refine WP_region ?_
  refine S_v E rfl (R_assign E rfl) rfl ?_
  clear E a; intro a E
  refine S_v E rfl (R_assign E rfl) rfl ?_
  clear E a; intro a E
  refine WL_nil ?_
  refine T_n ?_
  refine WP_seq ?_
  refine WP_region ?_
  refine S_v E rfl (R_move E rfl) rfl ?_
  clear E a; intro a E
  refine S_v E rfl (R_move E rfl) rfl ?_
  clear E a; intro a E
  refine S_x (X_pu E S rfl rfl rfl (spec_Sliding h0 (by first | omega | (simp; done) | (simp; omega)) (by first | omega | (simp; done) | (simp; omega)) (by first | omega | (simp; done) | (simp; omega)) (by first | omega | (simp; done) | (simp; omega)) (by first | omega | (simp; done) | (simp; omega))) (Hp.le.refl _) ?_)
  clear E a S; rintro a _ w M_1 hM_1 ⟨v_2, rfl, hv_2⟩ S E
  replace h0 := h0.le hM_1
  refine S_v E rfl (R_extract E rfl rfl) rfl ?_
  clear E a; intro a E
  refine S_v E rfl (R_extract E rfl rfl) rfl ?_
  clear E a; intro a E
  refine S_v E rfl (R_assign E rfl) rfl ?_
  clear E a; intro a E
  refine S_v E rfl (R_assign E rfl) rfl ?_
  clear E a; intro a E
  refine WL_nil ?_
  refine T_n ?_
  refine WP_ret ?_
  exact F_ret2 E Try.results46 rfl rfl ⟨_, rfl, M_1, hM_1, ⟨_, (by first | rfl | (simp; done) | (simp_all; done)), hv_2⟩, S⟩

set_option maxRecDepth 100000 in
set_option maxHeartbeats 4000000 in
theorem laws_eq {M : Hp} {v0 v1 : Value} {l0 l1 : List Int} (h0 : RdI M v0 l0) (h1 : RdI M v1 l1) :
    Pu Try.prog (.func (.func 18) #[] #[]) M [v0, v1] (fun r M' => r = .bool (decide (l0 = l1))) := by
  refine Pu_enter Try.func18 rfl Try.ntmps18 rfl Try.call18 ?_
  intro a w M1 H hM1 S E
  replace h0 := h0.le hM1
  replace h1 := h1.le hM1
  have b0 := h0.bound
  have b1 := h1.bound
  refine WP_seq ?_
  refine WP_region ?_
  refine S_v E rfl (R_assign E rfl) rfl ?_
  clear E a; intro a E
  refine WL_nil ?_
  refine T_n ?_
  refine WP_seq ?_
  refine WP_seq ?_
  refine WP_region ?_
  refine S_v E rfl (R_move E rfl) rfl ?_
  clear E a; intro a E
  refine S_v E rfl (R_lenV E rfl T24 h0.len) rfl ?_
  clear E a; intro a E
  refine S_v E rfl (R_move E rfl) rfl ?_
  clear E a; intro a E
  refine S_v E rfl (R_lenV E rfl T24 h1.len) rfl ?_
  clear E a; intro a E
  refine S_v E rfl (R_neq E rfl rfl) rfl ?_
  clear E a; intro a E
  refine WL_nil ?_
  refine T_n ?_
  refine WP_cond E rfl (fun hc_1 => ?_) (fun hc_1 => ?_)
  · replace hc_1 := of_decide_eq_true hc_1
    refine WP_seq ?_
    refine WP_region ?_
    refine S_v E rfl (R_assign E rfl) rfl ?_
    clear E a; intro a E
    refine WL_nil ?_
    refine T_n ?_
    refine WP_ret ?_
    refine T_r ?_
    exact F_ret1 E Try.results18 rfl ⟨_, rfl, M1, (Hp.le.refl _), (bF (by ((try clear S); (try clear E); first | assumption | omega | rfl | (simp; done) | (simp_all; done) | (simp [List.take_add_one, *]; done) | grind [List.take_add_one]))), S⟩
  · replace hc_1 := of_decide_eq_false hc_1
    refine WP_skip ?_
    refine T_n ?_
    refine WP_seq ?_
    refine WP_seq ?_
    refine WP_region ?_
    refine S_v E rfl (R_move E rfl) rfl ?_
    clear E a; intro a E
    refine S_v E rfl (R_lenV E rfl T24 h0.len) rfl ?_
    clear E a; intro a E
    refine S_v E rfl (R_move E rfl) rfl ?_
    clear E a; intro a E
    refine WL_nil ?_
    refine T_n ?_
    refine WP_block ?_
    refine WP_loop (γ := Nat) (fun (k : Nat) a w => ∃ (M_2 : Hp), Hp.le M1 M_2 ∧ St w M_2 (H) ∧ Env a 26 [] [(0, v0), (1, v1), (12, .int .i64 (((l0).length : Nat) : Int)), (13, .int .i64 ((k : Nat) : Int))] ∧ (k ≤ (l0).length) ∧ (l0.length = l1.length) ∧ (l0.take k = l1.take k)) (fun k => ((l0).length) - k) 0 ⟨M1, Hp.le.refl _, S, E.keep ⟨rfl, rfl, rfl, rfl, trivial⟩, by ((try clear S); (try clear E); first | assumption | omega | rfl | (simp; done) | (simp_all; done) | (simp [List.take_add_one, *]; done) | grind [List.take_add_one]), by ((try clear S); (try clear E); first | assumption | omega | rfl | (simp; done) | (simp_all; done) | (simp [List.take_add_one, *]; done) | grind [List.take_add_one]), by ((try clear S); (try clear E); first | assumption | omega | rfl | (simp; done) | (simp_all; done) | (simp [List.take_add_one, *]; done) | grind [List.take_add_one])⟩ ?_
    try clear E
    try clear S
    try clear a
    try clear w
    rintro k a w ⟨M_2, hM_2, S, E, hL0_0, hL0_1, hL0_2⟩
    replace h0 := h0.le hM_2
    replace h1 := h1.le hM_2
    refine WP_seq ?_
    refine WP_region ?_
    refine S_v E rfl (R_lss E rfl rfl) rfl ?_
    clear E a; intro a E
    refine WL_nil ?_
    refine T_n ?_
    refine WP_seq ?_
    refine WP_cond E rfl (fun hc_3 => ?_) (fun hc_3 => ?_)
    · replace hc_3 := of_decide_eq_true hc_3
      refine WP_skip ?_
      refine T_n ?_
      refine WP_seq ?_
      refine WP_block ?_
      refine WP_seq ?_
      refine WP_region ?_
      refine S_v E rfl (R_move E rfl) rfl ?_
      clear E a; intro a E
      refine S_v E rfl (R_assign E rfl) rfl ?_
      clear E a; intro a E
      refine WL_nil ?_
      refine T_n ?_
      refine WP_seq ?_
      replace S := S.mono_heap (w' := World.drew _) rfl
      refine WP_drawn (C := fun x w => agree M_2 w) (bf := (fun i => [])) [0, 1, 2, 3, 4, 5, 6, 7, 8] [0, 1, 2, 3, 4, 5, 6, 7, 8] Try.mixed (by kernel_rfl) (fun x hq => S.imm) ?_
      refine D_v E rfl rfl rfl (fun w hC => (R_move E rfl)) ?_
      clear E a; intro a E
      refine D_v E rfl rfl rfl (fun w hC => (R_move E rfl)) ?_
      clear E a; intro a E
      obtain ⟨x_4, hx_4⟩ : ∃ x, (l0)[k]? = some x := ⟨_, List.getElem?_eq_getElem (by first | omega | (simp; done) | (simp; omega) | (simp_all; omega))⟩
      obtain ⟨p_5, hp_5, qp_5⟩ := h0.at hx_4
      refine D_v E rfl rfl rfl (fun w hC => (R_idx E rfl rfl T24 hp_5 rfl)) ?_
      clear E a; intro a E
      refine D_v E rfl rfl rfl (fun w hC => (R_loadM E rfl Try.isAgg3 hC qp_5)) ?_
      clear E a; intro a E
      refine D_v E rfl rfl rfl (fun w hC => (R_move E rfl)) ?_
      clear E a; intro a E
      refine D_v E rfl rfl rfl (fun w hC => (R_move E rfl)) ?_
      clear E a; intro a E
      obtain ⟨x_6, hx_6⟩ : ∃ x, (l1)[k]? = some x := ⟨_, List.getElem?_eq_getElem (by first | omega | (simp; done) | (simp; omega) | (simp_all; omega))⟩
      obtain ⟨p_7, hp_7, qp_7⟩ := h1.at hx_6
      refine D_v E rfl rfl rfl (fun w hC => (R_idx E rfl rfl T24 hp_7 rfl)) ?_
      clear E a; intro a E
      refine D_v E rfl rfl rfl (fun w hC => (R_loadM E rfl Try.isAgg3 hC qp_7)) ?_
      clear E a; intro a E
      refine D_v E rfl rfl rfl (fun w hC => (R_neq E rfl rfl)) ?_
      clear E a; intro a E
      refine D_end (NoP_n ?_)
      refine T_n ?_
      refine WP_cond E rfl (fun hc_8 => ?_) (fun hc_8 => ?_)
      · replace hc_8 := of_decide_eq_true hc_8
        refine WP_seq ?_
        refine WP_region ?_
        refine S_v E rfl (R_assign E rfl) rfl ?_
        clear E a; intro a E
        refine WL_nil ?_
        refine T_n ?_
        refine WP_ret ?_
        refine B_r ?_
        refine T_r ?_
        refine T_r ?_
        refine B_r ?_
        refine T_r ?_
        exact F_ret1 E Try.results18 rfl ⟨_, rfl, M_2, hM_2, (bF (by ((try clear S); (try clear E); first | assumption | omega | rfl | (simp; done) | (simp_all; done) | (simp [List.take_add_one, *]; done) | grind [List.take_add_one]))), S⟩
      · replace hc_8 := of_decide_eq_false hc_8
        refine WP_skip ?_
        refine B_n ?_
        refine T_n ?_
        refine WP_region ?_
        refine S_v E rfl (R_addx (m := ((k + 1 : Nat) : Int)) E rfl rfl (by omega) (by omega)) rfl ?_
        clear E a; intro a E
        refine S_v E rfl (R_move E rfl) rfl ?_
        clear E a; intro a E
        refine WL_nil ?_
        refine T_n ?_
        exact ⟨k + 1, ⟨M_2, hM_2, S, E.keep ⟨rfl, rfl, rfl, rfl, trivial⟩, by ((try clear S); (try clear E); first | assumption | omega | rfl | (simp; done) | (simp_all; done) | (simp [List.take_add_one, *]; done) | grind [List.take_add_one]), by ((try clear S); (try clear E); first | assumption | omega | rfl | (simp; done) | (simp_all; done) | (simp [List.take_add_one, *]; done) | grind [List.take_add_one]), by ((try clear S); (try clear E); first | assumption | omega | rfl | (simp; done) | (simp_all; done) | (simp [List.take_add_one, *]; done) | grind [List.take_add_one])⟩, by omega⟩
    · replace hc_3 := of_decide_eq_false hc_3
      refine WP_exit ?_
      refine T_x ?_
      refine T_x ?_
      refine B_x ?_
      refine T_n ?_
      refine WP_seq ?_
      refine WP_region ?_
      refine S_v E rfl (R_assign E rfl) rfl ?_
      clear E a; intro a E
      refine WL_nil ?_
      refine T_n ?_
      refine WP_ret ?_
      exact F_ret1 E Try.results18 rfl ⟨_, rfl, M_2, hM_2, (bT (by ((try clear S); (try clear E); first | assumption | omega | rfl | (simp; done) | (simp_all; done) | (simp [List.take_add_one, *]; done) | grind [List.take_add_one]))), S⟩

set_option maxRecDepth 100000 in
set_option maxHeartbeats 4000000 in
theorem laws_eqLists {M : Hp} {v0 v1 : Value} {l0 l1 : List (List Int)} (h0 : RdII M v0 l0) (h1 : RdII M v1 l1) :
    Pu Try.prog (.func (.func 48) #[] #[]) M [v0, v1] (fun r M' => r = .bool (decide (l0 = l1))) := by
  refine Pu_enter Try.func48 rfl Try.ntmps48 rfl Try.call48 ?_
  intro a w M1 H hM1 S E
  replace h0 := h0.le hM1
  replace h1 := h1.le hM1
  have b0 := h0.bound
  have b1 := h1.bound
  refine WP_seq ?_
  refine WP_region ?_
  refine S_v E rfl (R_assign E rfl) rfl ?_
  clear E a; intro a E
  refine WL_nil ?_
  refine T_n ?_
  refine WP_seq ?_
  refine WP_seq ?_
  refine WP_region ?_
  refine S_v E rfl (R_move E rfl) rfl ?_
  clear E a; intro a E
  refine S_v E rfl (R_lenV E rfl T22 h0.len) rfl ?_
  clear E a; intro a E
  refine S_v E rfl (R_move E rfl) rfl ?_
  clear E a; intro a E
  refine S_v E rfl (R_lenV E rfl T22 h1.len) rfl ?_
  clear E a; intro a E
  refine S_v E rfl (R_neq E rfl rfl) rfl ?_
  clear E a; intro a E
  refine WL_nil ?_
  refine T_n ?_
  refine WP_cond E rfl (fun hc_1 => ?_) (fun hc_1 => ?_)
  · replace hc_1 := of_decide_eq_true hc_1
    refine WP_seq ?_
    refine WP_region ?_
    refine S_v E rfl (R_assign E rfl) rfl ?_
    clear E a; intro a E
    refine WL_nil ?_
    refine T_n ?_
    refine WP_ret ?_
    refine T_r ?_
    exact F_ret1 E Try.results48 rfl ⟨_, rfl, M1, (Hp.le.refl _), (bF (by (first | (simp; done) | exact eqp_no (by assumption) (by assumption) (by first | assumption | simp_all) | (have h9 : l0.take k = l1.take k := (by assumption); rwa [List.take_of_length_le (by omega), List.take_of_length_le (by omega)] at h9) | (intro h9; subst h9; omega) | (intro h9; subst h9; simp_all; done)))), S⟩
  · replace hc_1 := of_decide_eq_false hc_1
    refine WP_skip ?_
    refine T_n ?_
    refine WP_seq ?_
    refine WP_seq ?_
    refine WP_region ?_
    refine S_v E rfl (R_move E rfl) rfl ?_
    clear E a; intro a E
    refine S_v E rfl (R_lenV E rfl T22 h0.len) rfl ?_
    clear E a; intro a E
    refine S_v E rfl (R_move E rfl) rfl ?_
    clear E a; intro a E
    refine WL_nil ?_
    refine T_n ?_
    refine WP_block ?_
    refine WP_loop (γ := Nat) (fun (k : Nat) a w => ∃ (M_2 : Hp), Hp.le M1 M_2 ∧ St w M_2 (H) ∧ Env a 27 [] [(0, v0), (1, v1), (12, .int .i64 (((l0).length : Nat) : Int)), (13, .int .i64 ((k : Nat) : Int))] ∧ (k ≤ (l0).length) ∧ (l0.length = l1.length) ∧ (l0.take k = l1.take k)) (fun k => ((l0).length) - k) 0 ⟨M1, Hp.le.refl _, S, E.keep ⟨rfl, rfl, rfl, rfl, trivial⟩, by ((try clear S); (try clear E); first | assumption | omega | rfl | (simp; done) | (simp_all; done) | (simp [List.take_add_one, *]; done) | grind [List.take_add_one]), by ((try clear S); (try clear E); first | assumption | omega | rfl | (simp; done) | (simp_all; done) | (simp [List.take_add_one, *]; done) | grind [List.take_add_one]), by ((try clear S); (try clear E); first | assumption | omega | rfl | (simp; done) | (simp_all; done) | (simp [List.take_add_one, *]; done) | grind [List.take_add_one])⟩ ?_
    try clear E
    try clear S
    try clear a
    try clear w
    rintro k a w ⟨M_2, hM_2, S, E, hL0_0, hL0_1, hL0_2⟩
    replace h0 := h0.le hM_2
    replace h1 := h1.le hM_2
    refine WP_seq ?_
    refine WP_region ?_
    refine S_v E rfl (R_lss E rfl rfl) rfl ?_
    clear E a; intro a E
    refine WL_nil ?_
    refine T_n ?_
    refine WP_seq ?_
    refine WP_cond E rfl (fun hc_3 => ?_) (fun hc_3 => ?_)
    · replace hc_3 := of_decide_eq_true hc_3
      refine WP_skip ?_
      refine T_n ?_
      refine WP_seq ?_
      refine WP_block ?_
      refine WP_seq ?_
      refine WP_region ?_
      refine S_v E rfl (R_move E rfl) rfl ?_
      clear E a; intro a E
      refine S_v E rfl (R_assign E rfl) rfl ?_
      clear E a; intro a E
      refine WL_nil ?_
      refine T_n ?_
      refine WP_seq ?_
      replace S := S.mono_heap (w' := World.drew _) rfl
      refine WP_drawn (C := fun x w => agree M_2 w) (bf := (fun i => [])) [0, 1, 2, 3, 4, 5, 6, 7, 9] [0, 1, 2, 3, 4, 5, 6, 7, 8, 9] Try.mixed (by kernel_rfl) (fun x hq => S.imm) ?_
      refine D_v E rfl rfl rfl (fun w hC => (R_move E rfl)) ?_
      clear E a; intro a E
      refine D_v E rfl rfl rfl (fun w hC => (R_move E rfl)) ?_
      clear E a; intro a E
      obtain ⟨x_4, hx_4⟩ : ∃ x, (l0)[k]? = some x := ⟨_, List.getElem?_eq_getElem (by first | omega | (simp; done) | (simp; omega) | (simp_all; omega))⟩
      obtain ⟨p_5, u_6, hp_5, qp_5, hu_6⟩ := h0.at hx_4
      have bu_6 := hu_6.bound
      refine D_v E rfl rfl rfl (fun w hC => (R_idx E rfl rfl T22 hp_5 rfl)) ?_
      clear E a; intro a E
      refine D_v E rfl rfl rfl (fun w hC => (R_loadM E rfl Try.isAgg24 hC qp_5)) ?_
      clear E a; intro a E
      refine D_v E rfl rfl rfl (fun w hC => (R_move E rfl)) ?_
      clear E a; intro a E
      refine D_v E rfl rfl rfl (fun w hC => (R_move E rfl)) ?_
      clear E a; intro a E
      obtain ⟨x_7, hx_7⟩ : ∃ x, (l1)[k]? = some x := ⟨_, List.getElem?_eq_getElem (by first | omega | (simp; done) | (simp; omega) | (simp_all; omega))⟩
      obtain ⟨p_8, u_9, hp_8, qp_8, hu_9⟩ := h1.at hx_7
      have bu_9 := hu_9.bound
      refine D_v E rfl rfl rfl (fun w hC => (R_idx E rfl rfl T22 hp_8 rfl)) ?_
      clear E a; intro a E
      refine D_v E rfl rfl rfl (fun w hC => (R_loadM E rfl Try.isAgg24 hC qp_8)) ?_
      clear E a; intro a E
      refine D_x rfl rfl rfl (X_pu E S rfl rfl rfl (laws_eq hu_6 hu_9) (Hp.le.refl _) ?_)
      clear E a S; rintro a _ w M_10 hM_10 rfl S E
      replace h0 := h0.le hM_10
      replace h1 := h1.le hM_10
      replace hu_6 := hu_6.le hM_10
      replace hu_9 := hu_9.le hM_10
      refine ⟨fun x hq hb => (agree_le hM_10 S.imm), ?_⟩
      refine D_v E rfl rfl rfl (fun w hC => (R_not E rfl)) ?_
      clear E a; intro a E
      refine D_end (NoP_n ?_)
      refine T_n ?_
      refine WP_cond E rfl (fun hc_11 => ?_) (fun hc_11 => ?_)
      · refine WP_seq ?_
        refine WP_region ?_
        refine S_v E rfl (R_assign E rfl) rfl ?_
        clear E a; intro a E
        refine WL_nil ?_
        refine T_n ?_
        refine WP_ret ?_
        refine B_r ?_
        refine T_r ?_
        refine T_r ?_
        refine B_r ?_
        refine T_r ?_
        exact F_ret1 E Try.results48 rfl ⟨_, rfl, M_10, (hM_2.trans hM_10), (bF (by (first | (simp; done) | exact eqp_no (by assumption) (by assumption) (by first | assumption | simp_all) | (have h9 : l0.take k = l1.take k := (by assumption); rwa [List.take_of_length_le (by omega), List.take_of_length_le (by omega)] at h9) | (intro h9; subst h9; omega) | (intro h9; subst h9; simp_all; done)))), S⟩
      · refine WP_skip ?_
        refine B_n ?_
        refine T_n ?_
        refine WP_region ?_
        refine S_v E rfl (R_addx (m := ((k + 1 : Nat) : Int)) E rfl rfl (by omega) (by omega)) rfl ?_
        clear E a; intro a E
        refine S_v E rfl (R_move E rfl) rfl ?_
        clear E a; intro a E
        refine WL_nil ?_
        refine T_n ?_
        exact ⟨k + 1, ⟨M_10, (hM_2.trans hM_10), S, E.keep ⟨rfl, rfl, rfl, rfl, trivial⟩, by ((try clear S); (try clear E); first | assumption | omega | rfl | (simp; done) | (simp_all; done) | (simp [List.take_add_one, *]; done) | grind [List.take_add_one]), by ((try clear S); (try clear E); first | assumption | omega | rfl | (simp; done) | (simp_all; done) | (simp [List.take_add_one, *]; done) | grind [List.take_add_one]), (by exact eqp_step (by assumption) (by assumption) (by assumption) (by first | assumption | simp_all))⟩, by omega⟩
    · replace hc_3 := of_decide_eq_false hc_3
      refine WP_exit ?_
      refine T_x ?_
      refine T_x ?_
      refine B_x ?_
      refine T_n ?_
      refine WP_seq ?_
      refine WP_region ?_
      refine S_v E rfl (R_assign E rfl) rfl ?_
      clear E a; intro a E
      refine WL_nil ?_
      refine T_n ?_
      refine WP_ret ?_
      exact F_ret1 E Try.results48 rfl ⟨_, rfl, M_2, hM_2, (bT (by (first | (simp; done) | exact eqp_no (by assumption) (by assumption) (by first | assumption | simp_all) | (have h9 : l0.take k = l1.take k := (by assumption); rwa [List.take_of_length_le (by omega), List.take_of_length_le (by omega)] at h9) | (intro h9; subst h9; omega) | (intro h9; subst h9; simp_all; done)))), S⟩

set_option maxRecDepth 100000 in
set_option maxHeartbeats 4000000 in
theorem laws_FnWindows {M : Hp} {v0 : Value} {l0 : List Int} (h0 : RdI M v0 l0){n1 n2 : Nat} (g1 : n1 ≤ 255) (g2 : n2 ≤ 255) :
    PuC Try.prog 7 M [v0, .int .u8 ((n1 : Nat) : Int), .int .u8 ((n2 : Nat) : Int)] (fun r M' => r = .bool true) := by
  refine PuC_enter Try.func7 rfl Try.ntmps7 rfl ?_
  intro a w M1 H hM1 S E
  replace h0 := h0.le hM1
  have b0 := h0.bound
  refine WP_seq ?_
  refine WP_region ?_
  refine S_v E rfl (R_assign E rfl) rfl ?_
  clear E a; intro a E
  refine WL_nil ?_
  refine T_n ?_
  refine WP_seq ?_
  refine WP_seq ?_
  refine WP_region ?_
  refine S_v E rfl (R_move E rfl) rfl ?_
  clear E a; intro a E
  refine S_v E rfl (R_lenV E rfl T24 h0.len) rfl ?_
  clear E a; intro a E
  refine S_v E rfl (R_gtr E rfl rfl) rfl ?_
  clear E a; intro a E
  refine WL_nil ?_
  refine T_n ?_
  refine WP_cond E rfl (fun hc_1 => ?_) (fun hc_1 => ?_)
  · replace hc_1 := of_decide_eq_true hc_1
    refine WP_seq ?_
    refine WP_region ?_
    refine S_v E rfl (R_assign E rfl) rfl ?_
    clear E a; intro a E
    refine WL_nil ?_
    refine T_n ?_
    refine WP_ret ?_
    refine T_r ?_
    exact F_ret1 E Try.results7 rfl ⟨_, rfl, M1, (Hp.le.refl _), rfl, S⟩
  · replace hc_1 := of_decide_eq_false hc_1
    refine WP_skip ?_
    refine T_n ?_
    refine WP_seq ?_
    refine WP_seq ?_
    refine WP_region ?_
    refine S_x (X_buildI (ys := [1]) E S rfl T24 rfl rfl rfl ?_)
    clear E a S; rintro a w v_2 E S
    have S0 := S; clear S
    obtain ⟨M_3, hM_3, hz_4, S⟩ := S0.freezeI (by (first | omega | (simp; done) | (simp [winL_len]; done) | (simp [winL_len]; omega) | (simp; omega) | (simp only [someL, List.length_map]; have hfa := List.length_filter_le (fun i => decide (i % n2 = 0)) (List.range k); have hfb := List.length_filter_le (fun i => decide (i % n1 = 0)) (List.range k); simp only [List.length_range] at hfa hfb; omega)))
    clear S0
    replace h0 := h0.le hM_3
    refine S_x (X_pu E S rfl rfl rfl (impl_Window hz_4 (by first | omega | (simp; done) | (simp; omega)) (by first | omega | (simp; done) | (simp; omega)) (by first | omega | (simp; done) | (simp; omega))) (Hp.le.refl _) ?_)
    clear E a S; rintro a _ w M_5 hM_5 ⟨v_6, rfl, hv_6⟩ S E
    replace h0 := h0.le hM_5
    replace hz_4 := hz_4.le hM_5
    refine S_v E rfl (R_move E rfl) rfl ?_
    clear E a; intro a E
    refine S_v E rfl (R_extract E rfl rfl) rfl ?_
    clear E a; intro a E
    refine S_v E rfl (R_extract E rfl rfl) rfl ?_
    clear E a; intro a E
    refine S_v E rfl (R_assign E rfl) rfl ?_
    clear E a; intro a E
    refine S_v E rfl (R_assign E rfl) rfl ?_
    clear E a; intro a E
    refine WL_nil ?_
    refine T_n ?_
    refine WP_seq ?_
    refine WP_region ?_
    refine S_v E rfl (R_move E rfl) rfl ?_
    clear E a; intro a E
    refine S_v E rfl (R_not E rfl) rfl ?_
    clear E a; intro a E
    refine S_v E rfl (R_move E rfl) rfl ?_
    clear E a; intro a E
    refine WL_guard_yes E rfl rfl ?_
    refine S_v E rfl (R_move E rfl) rfl ?_
    clear E a; intro a E
    refine WL_guard_yes E rfl rfl ?_
    refine S_v E rfl (R_lenV E rfl T22 hv_6.len) rfl ?_
    clear E a; intro a E
    refine WL_guard_yes E rfl rfl ?_
    refine S_v E rfl (R_neq E rfl rfl) rfl ?_
    clear E a; intro a E
    refine S_v E rfl (R_pickF E rfl rfl) rfl ?_
    clear E a; intro a E
    refine WL_nil ?_
    refine T_n ?_
    have hc_7 : (decide ((((sliL 1 1 [1]).length : Nat) : Int) ≠ 1)) = false := by (clear S E; first | (simp; done) | decide | (rw [win_end (s := 1) (k := k) (by omega) (by assumption) (by omega)]; simp; done) | (rw [← win_end (s := 1) (k := k) (by omega) (by assumption) (by omega)]; simp; done) | (rw [some_end (k := k) hn hs (by assumption) (by omega)]; simp; done) | (rw [some_end (k := k) hn hn (by assumption) (by omega)]; simp; done))
    refine WP_condF E rfl hc_7 ?_
    refine WP_skip ?_
    refine T_n ?_
    refine WP_seq ?_
    refine WP_region ?_
    refine S_v E rfl (R_move E rfl) rfl ?_
    clear E a; intro a E
    refine S_v E rfl (R_convx E rfl Try.underlying5 Try.underlying3 (by omega)) rfl ?_
    clear E a; intro a E
    refine S_v E rfl (R_move E rfl) rfl ?_
    clear E a; intro a E
    refine S_v E rfl (R_convx E rfl Try.underlying5 Try.underlying3 (by omega)) rfl ?_
    clear E a; intro a E
    refine S_v E rfl (R_assign E rfl) rfl ?_
    clear E a; intro a E
    refine S_v E rfl (R_assign E rfl) rfl ?_
    clear E a; intro a E
    refine WL_nil ?_
    refine T_n ?_
    refine WP_seq ?_
    refine WP_seq ?_
    refine WP_region ?_
    refine S_v E rfl (R_move E rfl) rfl ?_
    clear E a; intro a E
    refine S_x (X_buildM (R := RSl 1 RInt) (vs := [v0]) (xs := [l0]) (RSl_mono RInt_mono) E S rfl T22 rfl rfl rfl (by intro u hu; simp only [List.mem_cons, List.not_mem_nil, or_false] at hu; rcases hu with rfl <;> first | exact RdI.one h0 | rfl) rfl (rowsC (R := RSl 1 RInt) (RdI.row h0) rowsN) ?_)
    clear E a S; rintro a v_8 w M_9 hM_9 hv_8 S E
    replace hv_8 : RdII M_9 v_8 [l0] := hv_8
    replace h0 := h0.le hM_9
    replace hz_4 := hz_4.le hM_9
    replace hv_6 := hv_6.le hM_9
    refine S_x (X_pu E S rfl rfl rfl (laws_few hv_8) (Hp.le.refl _) ?_)
    clear E a S; rintro a _ w M_10 hM_10 rfl S E
    replace h0 := h0.le hM_10
    replace hz_4 := hz_4.le hM_10
    replace hv_6 := hv_6.le hM_10
    replace hv_8 := hv_8.le hM_10
    refine S_v E rfl (R_not E rfl) rfl ?_
    clear E a; intro a E
    refine S_v E rfl (R_move E rfl) rfl ?_
    clear E a; intro a E
    refine split_bool (!(decide (∀ x ∈ [l0], x.length ≤ 300))) (fun hc_11 => ?_) (fun hc_11 => ?_)
    · replace E := E.val (t := 51) rfl hc_11
      replace E := E.val (t := 52) rfl hc_11
      refine WL_guard_no E rfl rfl rfl rfl fun a E => ?_
      refine WL_guard_no E rfl rfl rfl rfl fun a E => ?_
      refine S_v E rfl (R_pickT E rfl rfl) rfl ?_
      clear E a; intro a E
      refine S_v E rfl (R_move E rfl) rfl ?_
      clear E a; intro a E
      refine WL_guard_no E rfl rfl rfl rfl fun a E => ?_
      refine WL_guard_no E rfl rfl rfl rfl fun a E => ?_
      refine S_v E rfl (R_pickT E rfl rfl) rfl ?_
      clear E a; intro a E
      refine WL_nil ?_
      refine T_n ?_
      refine WP_condT E rfl rfl ?_
      refine WP_seq ?_
      refine WP_region ?_
      refine S_v E rfl (R_assign E rfl) rfl ?_
      clear E a; intro a E
      refine WL_nil ?_
      refine T_n ?_
      refine WP_ret ?_
      refine T_r ?_
      exact F_ret1 E Try.results7 rfl ⟨_, rfl, M_10, (hM_3.trans (hM_5.trans (hM_9.trans hM_10))), rfl, S⟩
    · replace E := E.val (t := 51) rfl hc_11
      replace E := E.val (t := 52) rfl hc_11
      refine WL_guard_yes E rfl rfl ?_
      refine S_v E rfl (R_move E rfl) rfl ?_
      clear E a; intro a E
      refine WL_guard_yes E rfl rfl ?_
      refine S_v E rfl (R_eql E rfl rfl) rfl ?_
      clear E a; intro a E
      refine S_v E rfl (R_pickF E rfl rfl) rfl ?_
      clear E a; intro a E
      refine S_v E rfl (R_move E rfl) rfl ?_
      clear E a; intro a E
      refine split_bool (decide (((n1 : Nat) : Int) = 0)) (fun hc_12 => ?_) (fun hc_12 => ?_)
      · replace E := E.val (t := 54) rfl hc_12
        replace E := E.val (t := 55) rfl hc_12
        replace E := E.val (t := 56) rfl hc_12
        replace hc_12 := of_decide_eq_true hc_12
        refine WL_guard_no E rfl rfl rfl rfl fun a E => ?_
        refine WL_guard_no E rfl rfl rfl rfl fun a E => ?_
        refine S_v E rfl (R_pickT E rfl rfl) rfl ?_
        clear E a; intro a E
        refine WL_nil ?_
        refine T_n ?_
        refine WP_condT E rfl rfl ?_
        refine WP_seq ?_
        refine WP_region ?_
        refine S_v E rfl (R_assign E rfl) rfl ?_
        clear E a; intro a E
        refine WL_nil ?_
        refine T_n ?_
        refine WP_ret ?_
        refine T_r ?_
        exact F_ret1 E Try.results7 rfl ⟨_, rfl, M_10, (hM_3.trans (hM_5.trans (hM_9.trans hM_10))), rfl, S⟩
      · replace E := E.val (t := 54) rfl hc_12
        replace E := E.val (t := 55) rfl hc_12
        replace E := E.val (t := 56) rfl hc_12
        replace hc_12 := of_decide_eq_false hc_12
        refine WL_guard_yes E rfl rfl ?_
        refine S_v E rfl (R_move E rfl) rfl ?_
        clear E a; intro a E
        refine WL_guard_yes E rfl rfl ?_
        refine S_v E rfl (R_eql E rfl rfl) rfl ?_
        clear E a; intro a E
        refine S_v E rfl (R_pickF E rfl rfl) rfl ?_
        clear E a; intro a E
        refine WL_nil ?_
        refine T_n ?_
        refine WP_cond E rfl (fun hc_13 => ?_) (fun hc_13 => ?_)
        · replace hc_13 := of_decide_eq_true hc_13
          refine WP_seq ?_
          refine WP_region ?_
          refine S_v E rfl (R_assign E rfl) rfl ?_
          clear E a; intro a E
          refine WL_nil ?_
          refine T_n ?_
          refine WP_ret ?_
          refine T_r ?_
          exact F_ret1 E Try.results7 rfl ⟨_, rfl, M_10, (hM_3.trans (hM_5.trans (hM_9.trans hM_10))), rfl, S⟩
        · replace hc_13 := of_decide_eq_false hc_13
          have hle : l0.length ≤ 300 := (by simp_all)
          have hn : 0 < n1 := by omega
          have hs : 0 < n2 := by omega
          refine WP_skip ?_
          refine T_n ?_
          refine WP_seq ?_
          refine WP_region ?_
          refine S_v E rfl (R_assign E rfl) rfl ?_
          clear E a; intro a E
          refine S_v E rfl (R_assign E rfl) rfl ?_
          clear E a; intro a E
          refine S_v E rfl (R_assign E rfl) rfl ?_
          clear E a; intro a E
          refine WL_nil ?_
          refine T_n ?_
          refine WP_seq ?_
          refine WP_seq ?_
          refine WP_region ?_
          refine S_v E rfl (R_assign E rfl) rfl ?_
          clear E a; intro a E
          refine WL_nil ?_
          refine T_n ?_
          refine WP_block ?_
          replace S : St w M_10 (OwnC 24 1 (.slice none 0 0) ([] : List (List Int)).length [] :: _) := S.ownNil
          have hr_15 : RowsR (RSl 1 RInt) 1 M_10 ([] : List (List Int)) [] := RowsR.nil
          replace S : St w M_10 (OwnC 24 1 (.slice none 0 0) ([] : List (List Int)).length [] :: _) := S.ownNil
          have hr_17 : RowsR (RSl 1 RInt) 1 M_10 ([] : List (List Int)) [] := RowsR.nil
          replace S : St w M_10 (OwnC 24 1 (.slice none 0 0) ([] : List (List Int)).length [] :: _) := S.ownNil
          have hr_19 : RowsR (RSl 1 RInt) 1 M_10 ([] : List (List Int)) [] := RowsR.nil
          replace S := S.front2
          have hre : ([] : List (List Int)) = someL n1 n1 l0 0 := by first | rfl | (rw [sub_win]; first | exact some_yes (by omega) | (have h9 := winL_succ n1 1 l0 k; rw [Nat.mul_one] at h9; exact h9)) | exact some_no (by omega)
          replace S := S.reR hre
          replace hr_15 := hr_15.eq hre
          clear hre
          replace S := S.front2
          have hre : ([] : List (List Int)) = someL n1 n2 l0 0 := by first | rfl | (rw [sub_win]; first | exact some_yes (by omega) | (have h9 := winL_succ n1 1 l0 k; rw [Nat.mul_one] at h9; exact h9)) | exact some_no (by omega)
          replace S := S.reR hre
          replace hr_17 := hr_17.eq hre
          clear hre
          replace S := S.front2
          have hre : ([] : List (List Int)) = winL n1 1 l0 0 := by first | rfl | (rw [sub_win]; first | exact some_yes (by omega) | (have h9 := winL_succ n1 1 l0 k; rw [Nat.mul_one] at h9; exact h9)) | exact some_no (by omega)
          replace S := S.reR hre
          replace hr_19 := hr_19.eq hre
          clear hre
          refine WP_loop (γ := Nat) (fun (k : Nat) a w => ∃ (M_20 : Hp) (u11 : Value) (u12 : Value) (u13 : Value) (xs11 : List Value) (xs12 : List Value) (xs13 : List Value), Hp.le M_10 M_20 ∧ St w M_20 (OwnC 24 1 u11 (winL n1 1 l0 k).length xs11 :: OwnC 24 1 u12 (someL n1 n2 l0 k).length xs12 :: OwnC 24 1 u13 (someL n1 n1 l0 k).length xs13 :: H) ∧ Env a 203 [] [(0, v0), (9, .int .i64 ((n1 : Nat) : Int)), (10, .int .i64 ((n2 : Nat) : Int)), (11, u11), (12, u12), (13, u13), (14, .int .i64 ((k : Nat) : Int))] ∧ (IsV n1 1 l0.length k) ∧ (k ≤ l0.length + 1) ∧ RowsR (RSl 1 RInt) 1 M_20 (winL n1 1 l0 k) xs11 ∧ RowsR (RSl 1 RInt) 1 M_20 (someL n1 n2 l0 k) xs12 ∧ RowsR (RSl 1 RInt) 1 M_20 (someL n1 n1 l0 k) xs13) (fun k => l0.length + 1 - k) 0 ⟨M_10, _, _, _, _, _, _, Hp.le.refl _, S, E.keep ⟨rfl, rfl, rfl, rfl, rfl, rfl, rfl, trivial⟩, (by exact IsV_zero _ _ _), (by omega), hr_19, hr_17, hr_15⟩ ?_
          try clear E
          try clear S
          try clear a
          try clear w
          rintro k a w ⟨M_20, u11, u12, u13, xs11, xs12, xs13, hM_20, S, E, hL0_0, hL0_1, hr11, hr12, hr13⟩
          replace h0 := h0.le hM_20
          replace hz_4 := hz_4.le hM_20
          replace hv_6 := hv_6.le hM_20
          replace hv_8 := hv_8.le hM_20
          have hfa := List.length_filter_le (fun i => decide (i % n2 = 0)) (List.range k)
          have hfb := List.length_filter_le (fun i => decide (i % n1 = 0)) (List.range k)
          simp only [List.length_range] at hfa hfb
          refine WP_seq ?_
          refine WP_seq ?_
          refine WP_region ?_
          refine S_v E rfl (R_move E rfl) rfl ?_
          clear E a; intro a E
          refine S_v E rfl (R_move E rfl) rfl ?_
          clear E a; intro a E
          refine S_v E rfl (R_addx (m := ((k + n1 : Nat) : Int)) E rfl rfl (by omega) (by omega)) rfl ?_
          clear E a; intro a E
          refine S_v E rfl (R_move E rfl) rfl ?_
          clear E a; intro a E
          refine S_v E rfl (R_lenV E rfl T24 h0.len) rfl ?_
          clear E a; intro a E
          refine S_v E rfl (R_leq E rfl rfl) rfl ?_
          clear E a; intro a E
          refine WL_nil ?_
          refine T_n ?_
          refine WP_cond E rfl (fun hc_21 => ?_) (fun hc_21 => ?_)
          · replace hc_21 := of_decide_eq_true hc_21
            refine WP_skip ?_
            refine T_n ?_
            refine WP_seq ?_
            refine WP_block ?_
            refine WP_seq ?_
            refine WP_region ?_
            refine S_v E rfl (R_move E rfl) rfl ?_
            clear E a; intro a E
            refine S_v E rfl (R_move E rfl) rfl ?_
            clear E a; intro a E
            refine S_v E rfl (R_move E rfl) rfl ?_
            clear E a; intro a E
            refine S_v E rfl (R_move E rfl) rfl ?_
            clear E a; intro a E
            refine S_v E rfl (R_move E rfl) rfl ?_
            clear E a; intro a E
            refine S_v E rfl (R_addx (m := ((k + n1 : Nat) : Int)) E rfl rfl (by omega) (by omega)) rfl ?_
            clear E a; intro a E
            obtain ⟨v_22, sv_22, hv_22⟩ := h0.subv k (k + n1) (by first | omega | (simp; done) | (simp; omega) | (simp_all; omega)) (by first | omega | (simp; done) | (simp; omega) | (simp_all; omega))
            replace hv_22 : RdI M_20 v_22 (((l0).take (k + n1)).drop k) := hv_22
            refine S_v E rfl (R_sliceLH E rfl rfl rfl T24 sv_22 (by omega) (by omega)) rfl ?_
            clear E a; intro a E
            refine S_x (X_buildM (R := RSl 1 RInt) (vs := [v_22]) (xs := [((l0).take (k + n1)).drop k]) (RSl_mono RInt_mono) E S rfl T22 rfl rfl rfl (by intro u hu; simp only [List.mem_cons, List.not_mem_nil, or_false] at hu; rcases hu with rfl <;> first | exact RdI.one hv_22 | rfl) rfl (rowsC (R := RSl 1 RInt) (RdI.row hv_22) rowsN) ?_)
            clear E a S; rintro a v_23 w M_24 hM_24 hv_23 S E
            replace hv_23 : RdII M_24 v_23 [((l0).take (k + n1)).drop k] := hv_23
            replace h0 := h0.le hM_24
            replace hz_4 := hz_4.le hM_24
            replace hv_6 := hv_6.le hM_24
            replace hv_8 := hv_8.le hM_24
            replace hr11 := hr11.le (RSl_mono RInt_mono) hM_24
            replace hr12 := hr12.le (RSl_mono RInt_mono) hM_24
            replace hr13 := hr13.le (RSl_mono RInt_mono) hM_24
            replace hv_22 := hv_22.le hM_24
            refine S_x (X_appendR (R := (RSl 1 RInt)) (zs := winL n1 1 l0 k) (ys := [((l0).take (k + n1)).drop k]) E S hr11 rfl rfl rfl T22 hv_23 one_RSl (by (first | (simp [winL_len]; omega) | (simp only [someL, List.length_map, List.length_cons, List.length_nil]; omega))) (by (first | (simp [winL_len]; omega) | (simp only [someL, List.length_map, List.length_cons, List.length_nil]; omega))) ?_)
            clear E a S; rintro a w v_25 xs_26 E hr_27 S
            refine S_v E rfl (R_assign E rfl) rfl ?_
            clear E a; intro a E
            refine WL_nil ?_
            refine T_n ?_
            refine WP_seq ?_
            refine WP_seq ?_
            refine WP_region ?_
            refine S_v E rfl (R_move E rfl) rfl ?_
            clear E a; intro a E
            refine S_v E rfl (R_move E rfl) rfl ?_
            clear E a; intro a E
            refine S_v E rfl (R_remn (p := k) (q := n2) E rfl rfl (by first | decide | omega)) rfl ?_
            clear E a; intro a E
            refine S_v E rfl (R_eql E rfl rfl) rfl ?_
            clear E a; intro a E
            refine WL_nil ?_
            refine T_n ?_
            refine WP_cond E rfl (fun hc_28 => ?_) (fun hc_28 => ?_)
            · replace hc_28 := of_decide_eq_true hc_28
              refine WP_region ?_
              refine S_v E rfl (R_move E rfl) rfl ?_
              clear E a; intro a E
              refine S_v E rfl (R_move E rfl) rfl ?_
              clear E a; intro a E
              refine S_v E rfl (R_move E rfl) rfl ?_
              clear E a; intro a E
              refine S_v E rfl (R_move E rfl) rfl ?_
              clear E a; intro a E
              refine S_v E rfl (R_move E rfl) rfl ?_
              clear E a; intro a E
              refine S_v E rfl (R_addx (m := ((k + n1 : Nat) : Int)) E rfl rfl (by omega) (by omega)) rfl ?_
              clear E a; intro a E
              obtain ⟨v_29, sv_29, hv_29⟩ := h0.subv k (k + n1) (by first | omega | (simp; done) | (simp; omega) | (simp_all; omega)) (by first | omega | (simp; done) | (simp; omega) | (simp_all; omega))
              replace hv_29 : RdI M_24 v_29 (((l0).take (k + n1)).drop k) := hv_29
              refine S_v E rfl (R_sliceLH E rfl rfl rfl T24 sv_29 (by omega) (by omega)) rfl ?_
              clear E a; intro a E
              refine S_x (X_buildM (R := RSl 1 RInt) (vs := [v_29]) (xs := [((l0).take (k + n1)).drop k]) (RSl_mono RInt_mono) E S rfl T22 rfl rfl rfl (by intro u hu; simp only [List.mem_cons, List.not_mem_nil, or_false] at hu; rcases hu with rfl <;> first | exact RdI.one hv_29 | rfl) rfl (rowsC (R := RSl 1 RInt) (RdI.row hv_29) rowsN) ?_)
              clear E a S; rintro a v_30 w M_31 hM_31 hv_30 S E
              replace hv_30 : RdII M_31 v_30 [((l0).take (k + n1)).drop k] := hv_30
              replace h0 := h0.le hM_31
              replace hz_4 := hz_4.le hM_31
              replace hv_6 := hv_6.le hM_31
              replace hv_8 := hv_8.le hM_31
              replace hr12 := hr12.le (RSl_mono RInt_mono) hM_31
              replace hr13 := hr13.le (RSl_mono RInt_mono) hM_31
              replace hv_22 := hv_22.le hM_31
              replace hv_23 := hv_23.le hM_31
              replace hr_27 := hr_27.le (RSl_mono RInt_mono) hM_31
              replace hv_29 := hv_29.le hM_31
              replace S := S.front1
              refine S_x (X_appendR (R := (RSl 1 RInt)) (zs := someL n1 n2 l0 k) (ys := [((l0).take (k + n1)).drop k]) E S hr12 rfl rfl rfl T22 hv_30 one_RSl (by (first | (simp [winL_len]; omega) | (simp only [someL, List.length_map, List.length_cons, List.length_nil]; omega))) (by (first | (simp [winL_len]; omega) | (simp only [someL, List.length_map, List.length_cons, List.length_nil]; omega))) ?_)
              clear E a S; rintro a w v_32 xs_33 E hr_34 S
              refine S_v E rfl (R_assign E rfl) rfl ?_
              clear E a; intro a E
              refine WL_nil ?_
              refine T_n ?_
              refine WP_seq ?_
              refine WP_region ?_
              refine S_v E rfl (R_move E rfl) rfl ?_
              clear E a; intro a E
              refine S_v E rfl (R_move E rfl) rfl ?_
              clear E a; intro a E
              refine S_v E rfl (R_remn (p := k) (q := n1) E rfl rfl (by first | decide | omega)) rfl ?_
              clear E a; intro a E
              refine S_v E rfl (R_eql E rfl rfl) rfl ?_
              clear E a; intro a E
              refine WL_nil ?_
              refine T_n ?_
              refine WP_cond E rfl (fun hc_35 => ?_) (fun hc_35 => ?_)
              · replace hc_35 := of_decide_eq_true hc_35
                refine WP_region ?_
                refine S_v E rfl (R_move E rfl) rfl ?_
                clear E a; intro a E
                refine S_v E rfl (R_move E rfl) rfl ?_
                clear E a; intro a E
                refine S_v E rfl (R_move E rfl) rfl ?_
                clear E a; intro a E
                refine S_v E rfl (R_move E rfl) rfl ?_
                clear E a; intro a E
                refine S_v E rfl (R_move E rfl) rfl ?_
                clear E a; intro a E
                refine S_v E rfl (R_addx (m := ((k + n1 : Nat) : Int)) E rfl rfl (by omega) (by omega)) rfl ?_
                clear E a; intro a E
                obtain ⟨v_36, sv_36, hv_36⟩ := h0.subv k (k + n1) (by first | omega | (simp; done) | (simp; omega) | (simp_all; omega)) (by first | omega | (simp; done) | (simp; omega) | (simp_all; omega))
                replace hv_36 : RdI M_31 v_36 (((l0).take (k + n1)).drop k) := hv_36
                refine S_v E rfl (R_sliceLH E rfl rfl rfl T24 sv_36 (by omega) (by omega)) rfl ?_
                clear E a; intro a E
                refine S_x (X_buildM (R := RSl 1 RInt) (vs := [v_36]) (xs := [((l0).take (k + n1)).drop k]) (RSl_mono RInt_mono) E S rfl T22 rfl rfl rfl (by intro u hu; simp only [List.mem_cons, List.not_mem_nil, or_false] at hu; rcases hu with rfl <;> first | exact RdI.one hv_36 | rfl) rfl (rowsC (R := RSl 1 RInt) (RdI.row hv_36) rowsN) ?_)
                clear E a S; rintro a v_37 w M_38 hM_38 hv_37 S E
                replace hv_37 : RdII M_38 v_37 [((l0).take (k + n1)).drop k] := hv_37
                replace h0 := h0.le hM_38
                replace hz_4 := hz_4.le hM_38
                replace hv_6 := hv_6.le hM_38
                replace hv_8 := hv_8.le hM_38
                replace hr13 := hr13.le (RSl_mono RInt_mono) hM_38
                replace hv_22 := hv_22.le hM_38
                replace hv_23 := hv_23.le hM_38
                replace hr_27 := hr_27.le (RSl_mono RInt_mono) hM_38
                replace hv_29 := hv_29.le hM_38
                replace hv_30 := hv_30.le hM_38
                replace hr_34 := hr_34.le (RSl_mono RInt_mono) hM_38
                replace hv_36 := hv_36.le hM_38
                replace S := S.front2
                refine S_x (X_appendR (R := (RSl 1 RInt)) (zs := someL n1 n1 l0 k) (ys := [((l0).take (k + n1)).drop k]) E S hr13 rfl rfl rfl T22 hv_37 one_RSl (by (first | (simp [winL_len]; omega) | (simp only [someL, List.length_map, List.length_cons, List.length_nil]; omega))) (by (first | (simp [winL_len]; omega) | (simp only [someL, List.length_map, List.length_cons, List.length_nil]; omega))) ?_)
                clear E a S; rintro a w v_39 xs_40 E hr_41 S
                refine S_v E rfl (R_assign E rfl) rfl ?_
                clear E a; intro a E
                refine WL_nil ?_
                refine B_n ?_
                refine T_n ?_
                refine WP_region ?_
                refine S_v E rfl (R_move E rfl) rfl ?_
                clear E a; intro a E
                refine S_v E rfl (R_addx (m := ((k + 1 : Nat) : Int)) E rfl rfl (by omega) (by omega)) rfl ?_
                clear E a; intro a E
                refine S_v E rfl (R_assign E rfl) rfl ?_
                clear E a; intro a E
                refine WL_nil ?_
                refine T_n ?_
                replace S := S.front1
                replace S := S.front2
                replace S := S.front2
                have hre : (someL n1 n1 l0 k) ++ [((l0).take (k + n1)).drop k] = someL n1 n1 l0 (k + 1) := by first | rfl | (rw [sub_win]; first | exact some_yes (by omega) | (have h9 := winL_succ n1 1 l0 k; rw [Nat.mul_one] at h9; exact h9)) | exact some_no (by omega)
                replace S := S.reR hre
                replace hr_41 := hr_41.eq hre
                clear hre
                replace S := S.front2
                have hre : (someL n1 n2 l0 k) ++ [((l0).take (k + n1)).drop k] = someL n1 n2 l0 (k + 1) := by first | rfl | (rw [sub_win]; first | exact some_yes (by omega) | (have h9 := winL_succ n1 1 l0 k; rw [Nat.mul_one] at h9; exact h9)) | exact some_no (by omega)
                replace S := S.reR hre
                replace hr_34 := hr_34.eq hre
                clear hre
                replace S := S.front2
                have hre : (winL n1 1 l0 k) ++ [((l0).take (k + n1)).drop k] = winL n1 1 l0 (k + 1) := by first | rfl | (rw [sub_win]; first | exact some_yes (by omega) | (have h9 := winL_succ n1 1 l0 k; rw [Nat.mul_one] at h9; exact h9)) | exact some_no (by omega)
                replace S := S.reR hre
                replace hr_27 := hr_27.eq hre
                clear hre
                exact ⟨k + 1, ⟨M_38, _, _, _, _, _, _, (hM_20.trans (hM_24.trans (hM_31.trans hM_38))), S, E.keep ⟨rfl, rfl, rfl, rfl, rfl, rfl, rfl, trivial⟩, (by exact IsV_succ (by omega)), (by omega), hr_27, hr_34, hr_41⟩, by omega⟩
              · replace hc_35 := of_decide_eq_false hc_35
                refine WP_skip ?_
                refine B_n ?_
                refine T_n ?_
                refine WP_region ?_
                refine S_v E rfl (R_move E rfl) rfl ?_
                clear E a; intro a E
                refine S_v E rfl (R_addx (m := ((k + 1 : Nat) : Int)) E rfl rfl (by omega) (by omega)) rfl ?_
                clear E a; intro a E
                refine S_v E rfl (R_assign E rfl) rfl ?_
                clear E a; intro a E
                refine WL_nil ?_
                refine T_n ?_
                replace S := S.front2
                replace S := S.front1
                replace S := S.front2
                replace S := S.front2
                have hre : someL n1 n1 l0 k = someL n1 n1 l0 (k + 1) := by first | rfl | (rw [sub_win]; first | exact some_yes (by omega) | (have h9 := winL_succ n1 1 l0 k; rw [Nat.mul_one] at h9; exact h9)) | exact some_no (by omega)
                replace S := S.reR hre
                replace hr13 := hr13.eq hre
                clear hre
                replace S := S.front2
                have hre : (someL n1 n2 l0 k) ++ [((l0).take (k + n1)).drop k] = someL n1 n2 l0 (k + 1) := by first | rfl | (rw [sub_win]; first | exact some_yes (by omega) | (have h9 := winL_succ n1 1 l0 k; rw [Nat.mul_one] at h9; exact h9)) | exact some_no (by omega)
                replace S := S.reR hre
                replace hr_34 := hr_34.eq hre
                clear hre
                replace S := S.front2
                have hre : (winL n1 1 l0 k) ++ [((l0).take (k + n1)).drop k] = winL n1 1 l0 (k + 1) := by first | rfl | (rw [sub_win]; first | exact some_yes (by omega) | (have h9 := winL_succ n1 1 l0 k; rw [Nat.mul_one] at h9; exact h9)) | exact some_no (by omega)
                replace S := S.reR hre
                replace hr_27 := hr_27.eq hre
                clear hre
                exact ⟨k + 1, ⟨M_31, _, _, _, _, _, _, (hM_20.trans (hM_24.trans hM_31)), S, E.keep ⟨rfl, rfl, rfl, rfl, rfl, rfl, rfl, trivial⟩, (by exact IsV_succ (by omega)), (by omega), hr_27, hr_34, hr13⟩, by omega⟩
            · replace hc_28 := of_decide_eq_false hc_28
              refine WP_skip ?_
              refine T_n ?_
              refine WP_seq ?_
              refine WP_region ?_
              refine S_v E rfl (R_move E rfl) rfl ?_
              clear E a; intro a E
              refine S_v E rfl (R_move E rfl) rfl ?_
              clear E a; intro a E
              refine S_v E rfl (R_remn (p := k) (q := n1) E rfl rfl (by first | decide | omega)) rfl ?_
              clear E a; intro a E
              refine S_v E rfl (R_eql E rfl rfl) rfl ?_
              clear E a; intro a E
              refine WL_nil ?_
              refine T_n ?_
              refine WP_cond E rfl (fun hc_42 => ?_) (fun hc_42 => ?_)
              · replace hc_42 := of_decide_eq_true hc_42
                refine WP_region ?_
                refine S_v E rfl (R_move E rfl) rfl ?_
                clear E a; intro a E
                refine S_v E rfl (R_move E rfl) rfl ?_
                clear E a; intro a E
                refine S_v E rfl (R_move E rfl) rfl ?_
                clear E a; intro a E
                refine S_v E rfl (R_move E rfl) rfl ?_
                clear E a; intro a E
                refine S_v E rfl (R_move E rfl) rfl ?_
                clear E a; intro a E
                refine S_v E rfl (R_addx (m := ((k + n1 : Nat) : Int)) E rfl rfl (by omega) (by omega)) rfl ?_
                clear E a; intro a E
                obtain ⟨v_43, sv_43, hv_43⟩ := h0.subv k (k + n1) (by first | omega | (simp; done) | (simp; omega) | (simp_all; omega)) (by first | omega | (simp; done) | (simp; omega) | (simp_all; omega))
                replace hv_43 : RdI M_24 v_43 (((l0).take (k + n1)).drop k) := hv_43
                refine S_v E rfl (R_sliceLH E rfl rfl rfl T24 sv_43 (by omega) (by omega)) rfl ?_
                clear E a; intro a E
                refine S_x (X_buildM (R := RSl 1 RInt) (vs := [v_43]) (xs := [((l0).take (k + n1)).drop k]) (RSl_mono RInt_mono) E S rfl T22 rfl rfl rfl (by intro u hu; simp only [List.mem_cons, List.not_mem_nil, or_false] at hu; rcases hu with rfl <;> first | exact RdI.one hv_43 | rfl) rfl (rowsC (R := RSl 1 RInt) (RdI.row hv_43) rowsN) ?_)
                clear E a S; rintro a v_44 w M_45 hM_45 hv_44 S E
                replace hv_44 : RdII M_45 v_44 [((l0).take (k + n1)).drop k] := hv_44
                replace h0 := h0.le hM_45
                replace hz_4 := hz_4.le hM_45
                replace hv_6 := hv_6.le hM_45
                replace hv_8 := hv_8.le hM_45
                replace hr12 := hr12.le (RSl_mono RInt_mono) hM_45
                replace hr13 := hr13.le (RSl_mono RInt_mono) hM_45
                replace hv_22 := hv_22.le hM_45
                replace hv_23 := hv_23.le hM_45
                replace hr_27 := hr_27.le (RSl_mono RInt_mono) hM_45
                replace hv_43 := hv_43.le hM_45
                replace S := S.front2
                refine S_x (X_appendR (R := (RSl 1 RInt)) (zs := someL n1 n1 l0 k) (ys := [((l0).take (k + n1)).drop k]) E S hr13 rfl rfl rfl T22 hv_44 one_RSl (by (first | (simp [winL_len]; omega) | (simp only [someL, List.length_map, List.length_cons, List.length_nil]; omega))) (by (first | (simp [winL_len]; omega) | (simp only [someL, List.length_map, List.length_cons, List.length_nil]; omega))) ?_)
                clear E a S; rintro a w v_46 xs_47 E hr_48 S
                refine S_v E rfl (R_assign E rfl) rfl ?_
                clear E a; intro a E
                refine WL_nil ?_
                refine B_n ?_
                refine T_n ?_
                refine WP_region ?_
                refine S_v E rfl (R_move E rfl) rfl ?_
                clear E a; intro a E
                refine S_v E rfl (R_addx (m := ((k + 1 : Nat) : Int)) E rfl rfl (by omega) (by omega)) rfl ?_
                clear E a; intro a E
                refine S_v E rfl (R_assign E rfl) rfl ?_
                clear E a; intro a E
                refine WL_nil ?_
                refine T_n ?_
                replace S := S.front2
                replace S := S.front2
                replace S := S.front2
                have hre : (someL n1 n1 l0 k) ++ [((l0).take (k + n1)).drop k] = someL n1 n1 l0 (k + 1) := by first | rfl | (rw [sub_win]; first | exact some_yes (by omega) | (have h9 := winL_succ n1 1 l0 k; rw [Nat.mul_one] at h9; exact h9)) | exact some_no (by omega)
                replace S := S.reR hre
                replace hr_48 := hr_48.eq hre
                clear hre
                replace S := S.front2
                have hre : someL n1 n2 l0 k = someL n1 n2 l0 (k + 1) := by first | rfl | (rw [sub_win]; first | exact some_yes (by omega) | (have h9 := winL_succ n1 1 l0 k; rw [Nat.mul_one] at h9; exact h9)) | exact some_no (by omega)
                replace S := S.reR hre
                replace hr12 := hr12.eq hre
                clear hre
                replace S := S.front2
                have hre : (winL n1 1 l0 k) ++ [((l0).take (k + n1)).drop k] = winL n1 1 l0 (k + 1) := by first | rfl | (rw [sub_win]; first | exact some_yes (by omega) | (have h9 := winL_succ n1 1 l0 k; rw [Nat.mul_one] at h9; exact h9)) | exact some_no (by omega)
                replace S := S.reR hre
                replace hr_27 := hr_27.eq hre
                clear hre
                exact ⟨k + 1, ⟨M_45, _, _, _, _, _, _, (hM_20.trans (hM_24.trans hM_45)), S, E.keep ⟨rfl, rfl, rfl, rfl, rfl, rfl, rfl, trivial⟩, (by exact IsV_succ (by omega)), (by omega), hr_27, hr12, hr_48⟩, by omega⟩
              · replace hc_42 := of_decide_eq_false hc_42
                refine WP_skip ?_
                refine B_n ?_
                refine T_n ?_
                refine WP_region ?_
                refine S_v E rfl (R_move E rfl) rfl ?_
                clear E a; intro a E
                refine S_v E rfl (R_addx (m := ((k + 1 : Nat) : Int)) E rfl rfl (by omega) (by omega)) rfl ?_
                clear E a; intro a E
                refine S_v E rfl (R_assign E rfl) rfl ?_
                clear E a; intro a E
                refine WL_nil ?_
                refine T_n ?_
                replace S := S.front2
                have hre : someL n1 n1 l0 k = someL n1 n1 l0 (k + 1) := by first | rfl | (rw [sub_win]; first | exact some_yes (by omega) | (have h9 := winL_succ n1 1 l0 k; rw [Nat.mul_one] at h9; exact h9)) | exact some_no (by omega)
                replace S := S.reR hre
                replace hr13 := hr13.eq hre
                clear hre
                replace S := S.front2
                have hre : someL n1 n2 l0 k = someL n1 n2 l0 (k + 1) := by first | rfl | (rw [sub_win]; first | exact some_yes (by omega) | (have h9 := winL_succ n1 1 l0 k; rw [Nat.mul_one] at h9; exact h9)) | exact some_no (by omega)
                replace S := S.reR hre
                replace hr12 := hr12.eq hre
                clear hre
                replace S := S.front2
                have hre : (winL n1 1 l0 k) ++ [((l0).take (k + n1)).drop k] = winL n1 1 l0 (k + 1) := by first | rfl | (rw [sub_win]; first | exact some_yes (by omega) | (have h9 := winL_succ n1 1 l0 k; rw [Nat.mul_one] at h9; exact h9)) | exact some_no (by omega)
                replace S := S.reR hre
                replace hr_27 := hr_27.eq hre
                clear hre
                exact ⟨k + 1, ⟨M_24, _, _, _, _, _, _, (hM_20.trans hM_24), S, E.keep ⟨rfl, rfl, rfl, rfl, rfl, rfl, rfl, trivial⟩, (by exact IsV_succ (by omega)), (by omega), hr_27, hr12, hr13⟩, by omega⟩
          · replace hc_21 := of_decide_eq_false hc_21
            refine WP_exit ?_
            refine T_x ?_
            refine T_x ?_
            refine B_x ?_
            refine T_n ?_
            refine WP_seq ?_
            refine WP_region ?_
            refine S_v E rfl (R_move E rfl) rfl ?_
            clear E a; intro a E
            refine S_v E rfl (R_move E rfl) rfl ?_
            clear E a; intro a E
            refine S_x (X_pu E S rfl rfl rfl (impl_Window h0 (by first | omega | (simp; done) | (simp; omega)) (by first | omega | (simp; done) | (simp; omega)) (by first | omega | (simp; done) | (simp; omega))) (Hp.le.refl _) ?_)
            clear E a S; rintro a _ w M_49 hM_49 ⟨v_50, rfl, hv_50⟩ S E
            replace h0 := h0.le hM_49
            replace hz_4 := hz_4.le hM_49
            replace hv_6 := hv_6.le hM_49
            replace hv_8 := hv_8.le hM_49
            replace hr11 := hr11.le (RSl_mono RInt_mono) hM_49
            replace hr12 := hr12.le (RSl_mono RInt_mono) hM_49
            replace hr13 := hr13.le (RSl_mono RInt_mono) hM_49
            refine S_v E rfl (R_move E rfl) rfl ?_
            clear E a; intro a E
            refine S_v E rfl (R_extract E rfl rfl) rfl ?_
            clear E a; intro a E
            refine S_v E rfl (R_extract E rfl rfl) rfl ?_
            clear E a; intro a E
            refine S_v E rfl (R_assign E rfl) rfl ?_
            clear E a; intro a E
            refine S_v E rfl (R_assign E rfl) rfl ?_
            clear E a; intro a E
            refine WL_nil ?_
            refine T_n ?_
            refine WP_seq ?_
            refine WP_region ?_
            refine S_v E rfl (R_move E rfl) rfl ?_
            clear E a; intro a E
            refine S_v E rfl (R_move E rfl) rfl ?_
            clear E a; intro a E
            refine S_x (X_pu E S rfl rfl rfl (impl_WindowSeq h0 (by first | omega | (simp; done) | (simp; omega)) (by first | omega | (simp; done) | (simp; omega)) (by first | omega | (simp; done) | (simp; omega))) (Hp.le.refl _) ?_)
            clear E a S; rintro a _ w M_51 hM_51 ⟨v_52, rfl, hv_52⟩ S E
            replace h0 := h0.le hM_51
            replace hz_4 := hz_4.le hM_51
            replace hv_6 := hv_6.le hM_51
            replace hv_8 := hv_8.le hM_51
            replace hr11 := hr11.le (RSl_mono RInt_mono) hM_51
            replace hr12 := hr12.le (RSl_mono RInt_mono) hM_51
            replace hr13 := hr13.le (RSl_mono RInt_mono) hM_51
            replace hv_50 := hv_50.le hM_51
            refine S_v E rfl (R_move E rfl) rfl ?_
            clear E a; intro a E
            refine S_v E rfl (R_extract E rfl rfl) rfl ?_
            clear E a; intro a E
            refine S_v E rfl (R_extract E rfl rfl) rfl ?_
            clear E a; intro a E
            refine S_v E rfl (R_assign E rfl) rfl ?_
            clear E a; intro a E
            refine S_v E rfl (R_assign E rfl) rfl ?_
            clear E a; intro a E
            refine WL_nil ?_
            refine T_n ?_
            refine WP_seq ?_
            refine WP_region ?_
            refine S_v E rfl (R_move E rfl) rfl ?_
            clear E a; intro a E
            refine S_v E rfl (R_move E rfl) rfl ?_
            clear E a; intro a E
            refine S_v E rfl (R_move E rfl) rfl ?_
            clear E a; intro a E
            refine S_x (X_pu E S rfl rfl rfl (impl_Sliding h0 (by first | omega | (simp; done) | (simp; omega)) (by first | omega | (simp; done) | (simp; omega)) (by first | omega | (simp; done) | (simp; omega)) (by first | omega | (simp; done) | (simp; omega)) (by first | omega | (simp; done) | (simp; omega))) (Hp.le.refl _) ?_)
            clear E a S; rintro a _ w M_53 hM_53 ⟨v_54, rfl, hv_54⟩ S E
            replace h0 := h0.le hM_53
            replace hz_4 := hz_4.le hM_53
            replace hv_6 := hv_6.le hM_53
            replace hv_8 := hv_8.le hM_53
            replace hr11 := hr11.le (RSl_mono RInt_mono) hM_53
            replace hr12 := hr12.le (RSl_mono RInt_mono) hM_53
            replace hr13 := hr13.le (RSl_mono RInt_mono) hM_53
            replace hv_50 := hv_50.le hM_53
            replace hv_52 := hv_52.le hM_53
            refine S_v E rfl (R_move E rfl) rfl ?_
            clear E a; intro a E
            refine S_v E rfl (R_extract E rfl rfl) rfl ?_
            clear E a; intro a E
            refine S_v E rfl (R_extract E rfl rfl) rfl ?_
            clear E a; intro a E
            refine S_v E rfl (R_assign E rfl) rfl ?_
            clear E a; intro a E
            refine S_v E rfl (R_assign E rfl) rfl ?_
            clear E a; intro a E
            refine WL_nil ?_
            refine T_n ?_
            refine WP_seq ?_
            refine WP_region ?_
            refine S_v E rfl (R_move E rfl) rfl ?_
            clear E a; intro a E
            refine S_v E rfl (R_move E rfl) rfl ?_
            clear E a; intro a E
            refine S_v E rfl (R_move E rfl) rfl ?_
            clear E a; intro a E
            refine S_x (X_pu E S rfl rfl rfl (impl_SlidingSeq h0 (by first | omega | (simp; done) | (simp; omega)) (by first | omega | (simp; done) | (simp; omega)) (by first | omega | (simp; done) | (simp; omega)) (by first | omega | (simp; done) | (simp; omega)) (by first | omega | (simp; done) | (simp; omega))) (Hp.le.refl _) ?_)
            clear E a S; rintro a _ w M_55 hM_55 ⟨v_56, rfl, hv_56⟩ S E
            replace h0 := h0.le hM_55
            replace hz_4 := hz_4.le hM_55
            replace hv_6 := hv_6.le hM_55
            replace hv_8 := hv_8.le hM_55
            replace hr11 := hr11.le (RSl_mono RInt_mono) hM_55
            replace hr12 := hr12.le (RSl_mono RInt_mono) hM_55
            replace hr13 := hr13.le (RSl_mono RInt_mono) hM_55
            replace hv_50 := hv_50.le hM_55
            replace hv_52 := hv_52.le hM_55
            replace hv_54 := hv_54.le hM_55
            refine S_v E rfl (R_move E rfl) rfl ?_
            clear E a; intro a E
            refine S_v E rfl (R_extract E rfl rfl) rfl ?_
            clear E a; intro a E
            refine S_v E rfl (R_extract E rfl rfl) rfl ?_
            clear E a; intro a E
            refine S_v E rfl (R_assign E rfl) rfl ?_
            clear E a; intro a E
            refine S_v E rfl (R_assign E rfl) rfl ?_
            clear E a; intro a E
            refine WL_nil ?_
            refine T_n ?_
            refine WP_seq ?_
            refine WP_region ?_
            refine S_v E rfl (R_move E rfl) rfl ?_
            clear E a; intro a E
            refine S_v E rfl (R_move E rfl) rfl ?_
            clear E a; intro a E
            refine S_v E rfl (R_move E rfl) rfl ?_
            clear E a; intro a E
            refine S_x (X_pu E S rfl rfl rfl (impl_Sliding h0 (by first | omega | (simp; done) | (simp; omega)) (by first | omega | (simp; done) | (simp; omega)) (by first | omega | (simp; done) | (simp; omega)) (by first | omega | (simp; done) | (simp; omega)) (by first | omega | (simp; done) | (simp; omega))) (Hp.le.refl _) ?_)
            clear E a S; rintro a _ w M_57 hM_57 ⟨v_58, rfl, hv_58⟩ S E
            replace h0 := h0.le hM_57
            replace hz_4 := hz_4.le hM_57
            replace hv_6 := hv_6.le hM_57
            replace hv_8 := hv_8.le hM_57
            replace hr11 := hr11.le (RSl_mono RInt_mono) hM_57
            replace hr12 := hr12.le (RSl_mono RInt_mono) hM_57
            replace hr13 := hr13.le (RSl_mono RInt_mono) hM_57
            replace hv_50 := hv_50.le hM_57
            replace hv_52 := hv_52.le hM_57
            replace hv_54 := hv_54.le hM_57
            replace hv_56 := hv_56.le hM_57
            refine S_v E rfl (R_move E rfl) rfl ?_
            clear E a; intro a E
            refine S_v E rfl (R_extract E rfl rfl) rfl ?_
            clear E a; intro a E
            refine S_v E rfl (R_extract E rfl rfl) rfl ?_
            clear E a; intro a E
            refine S_v E rfl (R_assign E rfl) rfl ?_
            clear E a; intro a E
            refine S_v E rfl (R_assign E rfl) rfl ?_
            clear E a; intro a E
            refine WL_nil ?_
            refine T_n ?_
            refine WP_seq ?_
            refine WP_region ?_
            refine S_v E rfl (R_move E rfl) rfl ?_
            clear E a; intro a E
            refine S_v E rfl (R_move E rfl) rfl ?_
            clear E a; intro a E
            refine S_x (X_pu E S rfl rfl rfl (spec_Window h0 (by first | omega | (simp; done) | (simp; omega)) (by first | omega | (simp; done) | (simp; omega)) (by first | omega | (simp; done) | (simp; omega))) (Hp.le.refl _) ?_)
            clear E a S; rintro a _ w M_59 hM_59 ⟨v_60, rfl, hv_60⟩ S E
            replace h0 := h0.le hM_59
            replace hz_4 := hz_4.le hM_59
            replace hv_6 := hv_6.le hM_59
            replace hv_8 := hv_8.le hM_59
            replace hr11 := hr11.le (RSl_mono RInt_mono) hM_59
            replace hr12 := hr12.le (RSl_mono RInt_mono) hM_59
            replace hr13 := hr13.le (RSl_mono RInt_mono) hM_59
            replace hv_50 := hv_50.le hM_59
            replace hv_52 := hv_52.le hM_59
            replace hv_54 := hv_54.le hM_59
            replace hv_56 := hv_56.le hM_59
            replace hv_58 := hv_58.le hM_59
            refine S_v E rfl (R_move E rfl) rfl ?_
            clear E a; intro a E
            refine S_v E rfl (R_extract E rfl rfl) rfl ?_
            clear E a; intro a E
            refine S_v E rfl (R_extract E rfl rfl) rfl ?_
            clear E a; intro a E
            refine S_v E rfl (R_assign E rfl) rfl ?_
            clear E a; intro a E
            refine S_v E rfl (R_assign E rfl) rfl ?_
            clear E a; intro a E
            refine WL_nil ?_
            refine T_n ?_
            refine WP_seq ?_
            refine WP_region ?_
            refine S_v E rfl (R_move E rfl) rfl ?_
            clear E a; intro a E
            refine S_v E rfl (R_move E rfl) rfl ?_
            clear E a; intro a E
            refine S_v E rfl (R_move E rfl) rfl ?_
            clear E a; intro a E
            refine S_x (X_pu E S rfl rfl rfl (spec_Sliding h0 (by first | omega | (simp; done) | (simp; omega)) (by first | omega | (simp; done) | (simp; omega)) (by first | omega | (simp; done) | (simp; omega)) (by first | omega | (simp; done) | (simp; omega)) (by first | omega | (simp; done) | (simp; omega))) (Hp.le.refl _) ?_)
            clear E a S; rintro a _ w M_61 hM_61 ⟨v_62, rfl, hv_62⟩ S E
            replace h0 := h0.le hM_61
            replace hz_4 := hz_4.le hM_61
            replace hv_6 := hv_6.le hM_61
            replace hv_8 := hv_8.le hM_61
            replace hr11 := hr11.le (RSl_mono RInt_mono) hM_61
            replace hr12 := hr12.le (RSl_mono RInt_mono) hM_61
            replace hr13 := hr13.le (RSl_mono RInt_mono) hM_61
            replace hv_50 := hv_50.le hM_61
            replace hv_52 := hv_52.le hM_61
            replace hv_54 := hv_54.le hM_61
            replace hv_56 := hv_56.le hM_61
            replace hv_58 := hv_58.le hM_61
            replace hv_60 := hv_60.le hM_61
            refine S_v E rfl (R_move E rfl) rfl ?_
            clear E a; intro a E
            refine S_v E rfl (R_extract E rfl rfl) rfl ?_
            clear E a; intro a E
            refine S_v E rfl (R_extract E rfl rfl) rfl ?_
            clear E a; intro a E
            refine S_v E rfl (R_assign E rfl) rfl ?_
            clear E a; intro a E
            refine S_v E rfl (R_assign E rfl) rfl ?_
            clear E a; intro a E
            refine WL_nil ?_
            refine T_n ?_
            refine WP_seq ?_
            refine WP_region ?_
            refine S_v E rfl (R_move E rfl) rfl ?_
            clear E a; intro a E
            refine S_v E rfl (R_move E rfl) rfl ?_
            clear E a; intro a E
            refine WL_guard_yes E rfl rfl ?_
            refine S_v E rfl (R_move E rfl) rfl ?_
            clear E a; intro a E
            refine S_v E rfl (R_pickT E rfl rfl) rfl ?_
            clear E a; intro a E
            refine S_v E rfl (R_move E rfl) rfl ?_
            clear E a; intro a E
            refine WL_guard_yes E rfl rfl ?_
            refine S_v E rfl (R_move E rfl) rfl ?_
            clear E a; intro a E
            refine WL_guard_yes E rfl rfl ?_
            refine S_v E rfl (R_move E rfl) rfl ?_
            clear E a; intro a E
            have S0 := S; clear S
            obtain ⟨M_63, hM_63, hz_64, S⟩ := S0.freezeR hr11 (RSl_mono RInt_mono) (by (first | omega | (simp; done) | (simp [winL_len]; done) | (simp [winL_len]; omega) | (simp; omega) | (simp only [someL, List.length_map]; have hfa := List.length_filter_le (fun i => decide (i % n2 = 0)) (List.range k); have hfb := List.length_filter_le (fun i => decide (i % n1 = 0)) (List.range k); simp only [List.length_range] at hfa hfb; omega)))
            clear S0
            replace hz_64 : RdII M_63 u11 (winL n1 1 l0 k) := hz_64
            replace h0 := h0.le hM_63
            replace hz_4 := hz_4.le hM_63
            replace hv_6 := hv_6.le hM_63
            replace hv_8 := hv_8.le hM_63
            replace hr12 := hr12.le (RSl_mono RInt_mono) hM_63
            replace hr13 := hr13.le (RSl_mono RInt_mono) hM_63
            replace hv_50 := hv_50.le hM_63
            replace hv_52 := hv_52.le hM_63
            replace hv_54 := hv_54.le hM_63
            replace hv_56 := hv_56.le hM_63
            replace hv_58 := hv_58.le hM_63
            replace hv_60 := hv_60.le hM_63
            replace hv_62 := hv_62.le hM_63
            refine WL_guard_yes E rfl rfl ?_
            refine S_x (X_pu E S rfl rfl rfl (laws_eqLists hv_60 hz_64) (Hp.le.refl _) ?_)
            clear E a S; rintro a _ w M_65 hM_65 rfl S E
            replace h0 := h0.le hM_65
            replace hz_4 := hz_4.le hM_65
            replace hv_6 := hv_6.le hM_65
            replace hv_8 := hv_8.le hM_65
            replace hr12 := hr12.le (RSl_mono RInt_mono) hM_65
            replace hr13 := hr13.le (RSl_mono RInt_mono) hM_65
            replace hv_50 := hv_50.le hM_65
            replace hv_52 := hv_52.le hM_65
            replace hv_54 := hv_54.le hM_65
            replace hv_56 := hv_56.le hM_65
            replace hv_58 := hv_58.le hM_65
            replace hv_60 := hv_60.le hM_65
            replace hv_62 := hv_62.le hM_65
            replace hz_64 := hz_64.le hM_65
            refine S_v E rfl (R_pickT E rfl rfl) rfl ?_
            clear E a; intro a E
            refine S_v E rfl (R_move E rfl) rfl ?_
            clear E a; intro a E
            have hc_66 : (decide (sliL n1 1 l0 = winL n1 1 l0 k)) = true := by (clear S E; first | (simp; done) | decide | (rw [win_end (s := 1) (k := k) (by omega) (by assumption) (by omega)]; simp; done) | (rw [← win_end (s := 1) (k := k) (by omega) (by assumption) (by omega)]; simp; done) | (rw [some_end (k := k) hn hs (by assumption) (by omega)]; simp; done) | (rw [some_end (k := k) hn hn (by assumption) (by omega)]; simp; done))
            replace E := E.val (t := 156) rfl hc_66
            replace E := E.val (t := 157) rfl hc_66
            replace E := E.val (t := 158) rfl hc_66
            refine WL_guard_yes E rfl rfl ?_
            refine S_v E rfl (R_move E rfl) rfl ?_
            clear E a; intro a E
            refine WL_guard_yes E rfl rfl ?_
            refine S_v E rfl (R_move E rfl) rfl ?_
            clear E a; intro a E
            have S0 := S; clear S
            obtain ⟨M_67, hM_67, hz_68, S⟩ := S0.freezeR hr12 (RSl_mono RInt_mono) (by (first | omega | (simp; done) | (simp [winL_len]; done) | (simp [winL_len]; omega) | (simp; omega) | (simp only [someL, List.length_map]; have hfa := List.length_filter_le (fun i => decide (i % n2 = 0)) (List.range k); have hfb := List.length_filter_le (fun i => decide (i % n1 = 0)) (List.range k); simp only [List.length_range] at hfa hfb; omega)))
            clear S0
            replace hz_68 : RdII M_67 u12 (someL n1 n2 l0 k) := hz_68
            replace h0 := h0.le hM_67
            replace hz_4 := hz_4.le hM_67
            replace hv_6 := hv_6.le hM_67
            replace hv_8 := hv_8.le hM_67
            replace hr13 := hr13.le (RSl_mono RInt_mono) hM_67
            replace hv_50 := hv_50.le hM_67
            replace hv_52 := hv_52.le hM_67
            replace hv_54 := hv_54.le hM_67
            replace hv_56 := hv_56.le hM_67
            replace hv_58 := hv_58.le hM_67
            replace hv_60 := hv_60.le hM_67
            replace hv_62 := hv_62.le hM_67
            replace hz_64 := hz_64.le hM_67
            refine WL_guard_yes E rfl rfl ?_
            refine S_x (X_pu E S rfl rfl rfl (laws_eqLists hv_62 hz_68) (Hp.le.refl _) ?_)
            clear E a S; rintro a _ w M_69 hM_69 rfl S E
            replace h0 := h0.le hM_69
            replace hz_4 := hz_4.le hM_69
            replace hv_6 := hv_6.le hM_69
            replace hv_8 := hv_8.le hM_69
            replace hr13 := hr13.le (RSl_mono RInt_mono) hM_69
            replace hv_50 := hv_50.le hM_69
            replace hv_52 := hv_52.le hM_69
            replace hv_54 := hv_54.le hM_69
            replace hv_56 := hv_56.le hM_69
            replace hv_58 := hv_58.le hM_69
            replace hv_60 := hv_60.le hM_69
            replace hv_62 := hv_62.le hM_69
            replace hz_64 := hz_64.le hM_69
            replace hz_68 := hz_68.le hM_69
            refine S_v E rfl (R_pickT E rfl rfl) rfl ?_
            clear E a; intro a E
            refine S_v E rfl (R_move E rfl) rfl ?_
            clear E a; intro a E
            have hc_70 : (decide (sliL n1 n2 l0 = someL n1 n2 l0 k)) = true := by (clear S E; first | (simp; done) | decide | (rw [win_end (s := 1) (k := k) (by omega) (by assumption) (by omega)]; simp; done) | (rw [← win_end (s := 1) (k := k) (by omega) (by assumption) (by omega)]; simp; done) | (rw [some_end (k := k) hn hs (by assumption) (by omega)]; simp; done) | (rw [some_end (k := k) hn hn (by assumption) (by omega)]; simp; done))
            replace E := E.val (t := 161) rfl hc_70
            replace E := E.val (t := 162) rfl hc_70
            replace E := E.val (t := 163) rfl hc_70
            refine WL_guard_yes E rfl rfl ?_
            refine S_v E rfl (R_move E rfl) rfl ?_
            clear E a; intro a E
            refine S_v E rfl (R_pickT E rfl rfl) rfl ?_
            clear E a; intro a E
            refine S_v E rfl (R_move E rfl) rfl ?_
            clear E a; intro a E
            refine WL_guard_yes E rfl rfl ?_
            refine S_v E rfl (R_move E rfl) rfl ?_
            clear E a; intro a E
            refine S_v E rfl (R_pickT E rfl rfl) rfl ?_
            clear E a; intro a E
            refine S_v E rfl (R_move E rfl) rfl ?_
            clear E a; intro a E
            refine WL_guard_yes E rfl rfl ?_
            refine S_v E rfl (R_move E rfl) rfl ?_
            clear E a; intro a E
            refine S_v E rfl (R_pickT E rfl rfl) rfl ?_
            clear E a; intro a E
            refine S_v E rfl (R_move E rfl) rfl ?_
            clear E a; intro a E
            refine WL_guard_yes E rfl rfl ?_
            refine S_v E rfl (R_move E rfl) rfl ?_
            clear E a; intro a E
            refine S_v E rfl (R_pickT E rfl rfl) rfl ?_
            clear E a; intro a E
            refine S_v E rfl (R_move E rfl) rfl ?_
            clear E a; intro a E
            refine WL_guard_yes E rfl rfl ?_
            refine S_v E rfl (R_move E rfl) rfl ?_
            clear E a; intro a E
            refine S_v E rfl (R_pickT E rfl rfl) rfl ?_
            clear E a; intro a E
            refine S_v E rfl (R_move E rfl) rfl ?_
            clear E a; intro a E
            refine WL_guard_yes E rfl rfl ?_
            refine S_v E rfl (R_move E rfl) rfl ?_
            clear E a; intro a E
            refine WL_guard_yes E rfl rfl ?_
            refine S_v E rfl (R_move E rfl) rfl ?_
            clear E a; intro a E
            refine WL_guard_yes E rfl rfl ?_
            refine S_x (X_pu E S rfl rfl rfl (laws_eqLists hv_50 hz_64) (Hp.le.refl _) ?_)
            clear E a S; rintro a _ w M_71 hM_71 rfl S E
            replace h0 := h0.le hM_71
            replace hz_4 := hz_4.le hM_71
            replace hv_6 := hv_6.le hM_71
            replace hv_8 := hv_8.le hM_71
            replace hr13 := hr13.le (RSl_mono RInt_mono) hM_71
            replace hv_50 := hv_50.le hM_71
            replace hv_52 := hv_52.le hM_71
            replace hv_54 := hv_54.le hM_71
            replace hv_56 := hv_56.le hM_71
            replace hv_58 := hv_58.le hM_71
            replace hv_60 := hv_60.le hM_71
            replace hv_62 := hv_62.le hM_71
            replace hz_64 := hz_64.le hM_71
            replace hz_68 := hz_68.le hM_71
            refine S_v E rfl (R_pickT E rfl rfl) rfl ?_
            clear E a; intro a E
            refine S_v E rfl (R_move E rfl) rfl ?_
            clear E a; intro a E
            have hc_72 : (decide (sliL n1 1 l0 = winL n1 1 l0 k)) = true := by (clear S E; first | (simp; done) | decide | (rw [win_end (s := 1) (k := k) (by omega) (by assumption) (by omega)]; simp; done) | (rw [← win_end (s := 1) (k := k) (by omega) (by assumption) (by omega)]; simp; done) | (rw [some_end (k := k) hn hs (by assumption) (by omega)]; simp; done) | (rw [some_end (k := k) hn hn (by assumption) (by omega)]; simp; done))
            replace E := E.val (t := 181) rfl hc_72
            replace E := E.val (t := 182) rfl hc_72
            replace E := E.val (t := 183) rfl hc_72
            refine WL_guard_yes E rfl rfl ?_
            refine S_v E rfl (R_move E rfl) rfl ?_
            clear E a; intro a E
            refine WL_guard_yes E rfl rfl ?_
            refine S_v E rfl (R_move E rfl) rfl ?_
            clear E a; intro a E
            refine WL_guard_yes E rfl rfl ?_
            refine S_x (X_pu E S rfl rfl rfl (laws_eqLists hv_52 hz_64) (Hp.le.refl _) ?_)
            clear E a S; rintro a _ w M_73 hM_73 rfl S E
            replace h0 := h0.le hM_73
            replace hz_4 := hz_4.le hM_73
            replace hv_6 := hv_6.le hM_73
            replace hv_8 := hv_8.le hM_73
            replace hr13 := hr13.le (RSl_mono RInt_mono) hM_73
            replace hv_50 := hv_50.le hM_73
            replace hv_52 := hv_52.le hM_73
            replace hv_54 := hv_54.le hM_73
            replace hv_56 := hv_56.le hM_73
            replace hv_58 := hv_58.le hM_73
            replace hv_60 := hv_60.le hM_73
            replace hv_62 := hv_62.le hM_73
            replace hz_64 := hz_64.le hM_73
            replace hz_68 := hz_68.le hM_73
            refine S_v E rfl (R_pickT E rfl rfl) rfl ?_
            clear E a; intro a E
            refine S_v E rfl (R_move E rfl) rfl ?_
            clear E a; intro a E
            have hc_74 : (decide (sliL n1 1 l0 = winL n1 1 l0 k)) = true := by (clear S E; first | (simp; done) | decide | (rw [win_end (s := 1) (k := k) (by omega) (by assumption) (by omega)]; simp; done) | (rw [← win_end (s := 1) (k := k) (by omega) (by assumption) (by omega)]; simp; done) | (rw [some_end (k := k) hn hs (by assumption) (by omega)]; simp; done) | (rw [some_end (k := k) hn hn (by assumption) (by omega)]; simp; done))
            replace E := E.val (t := 186) rfl hc_74
            replace E := E.val (t := 187) rfl hc_74
            replace E := E.val (t := 188) rfl hc_74
            refine WL_guard_yes E rfl rfl ?_
            refine S_v E rfl (R_move E rfl) rfl ?_
            clear E a; intro a E
            refine WL_guard_yes E rfl rfl ?_
            refine S_v E rfl (R_move E rfl) rfl ?_
            clear E a; intro a E
            refine WL_guard_yes E rfl rfl ?_
            refine S_x (X_pu E S rfl rfl rfl (laws_eqLists hv_54 hz_68) (Hp.le.refl _) ?_)
            clear E a S; rintro a _ w M_75 hM_75 rfl S E
            replace h0 := h0.le hM_75
            replace hz_4 := hz_4.le hM_75
            replace hv_6 := hv_6.le hM_75
            replace hv_8 := hv_8.le hM_75
            replace hr13 := hr13.le (RSl_mono RInt_mono) hM_75
            replace hv_50 := hv_50.le hM_75
            replace hv_52 := hv_52.le hM_75
            replace hv_54 := hv_54.le hM_75
            replace hv_56 := hv_56.le hM_75
            replace hv_58 := hv_58.le hM_75
            replace hv_60 := hv_60.le hM_75
            replace hv_62 := hv_62.le hM_75
            replace hz_64 := hz_64.le hM_75
            replace hz_68 := hz_68.le hM_75
            refine S_v E rfl (R_pickT E rfl rfl) rfl ?_
            clear E a; intro a E
            refine S_v E rfl (R_move E rfl) rfl ?_
            clear E a; intro a E
            have hc_76 : (decide (sliL n1 n2 l0 = someL n1 n2 l0 k)) = true := by (clear S E; first | (simp; done) | decide | (rw [win_end (s := 1) (k := k) (by omega) (by assumption) (by omega)]; simp; done) | (rw [← win_end (s := 1) (k := k) (by omega) (by assumption) (by omega)]; simp; done) | (rw [some_end (k := k) hn hs (by assumption) (by omega)]; simp; done) | (rw [some_end (k := k) hn hn (by assumption) (by omega)]; simp; done))
            replace E := E.val (t := 191) rfl hc_76
            replace E := E.val (t := 192) rfl hc_76
            replace E := E.val (t := 193) rfl hc_76
            refine WL_guard_yes E rfl rfl ?_
            refine S_v E rfl (R_move E rfl) rfl ?_
            clear E a; intro a E
            refine WL_guard_yes E rfl rfl ?_
            refine S_v E rfl (R_move E rfl) rfl ?_
            clear E a; intro a E
            refine WL_guard_yes E rfl rfl ?_
            refine S_x (X_pu E S rfl rfl rfl (laws_eqLists hv_56 hz_68) (Hp.le.refl _) ?_)
            clear E a S; rintro a _ w M_77 hM_77 rfl S E
            replace h0 := h0.le hM_77
            replace hz_4 := hz_4.le hM_77
            replace hv_6 := hv_6.le hM_77
            replace hv_8 := hv_8.le hM_77
            replace hr13 := hr13.le (RSl_mono RInt_mono) hM_77
            replace hv_50 := hv_50.le hM_77
            replace hv_52 := hv_52.le hM_77
            replace hv_54 := hv_54.le hM_77
            replace hv_56 := hv_56.le hM_77
            replace hv_58 := hv_58.le hM_77
            replace hv_60 := hv_60.le hM_77
            replace hv_62 := hv_62.le hM_77
            replace hz_64 := hz_64.le hM_77
            replace hz_68 := hz_68.le hM_77
            refine S_v E rfl (R_pickT E rfl rfl) rfl ?_
            clear E a; intro a E
            refine S_v E rfl (R_move E rfl) rfl ?_
            clear E a; intro a E
            have hc_78 : (decide (sliL n1 n2 l0 = someL n1 n2 l0 k)) = true := by (clear S E; first | (simp; done) | decide | (rw [win_end (s := 1) (k := k) (by omega) (by assumption) (by omega)]; simp; done) | (rw [← win_end (s := 1) (k := k) (by omega) (by assumption) (by omega)]; simp; done) | (rw [some_end (k := k) hn hs (by assumption) (by omega)]; simp; done) | (rw [some_end (k := k) hn hn (by assumption) (by omega)]; simp; done))
            replace E := E.val (t := 196) rfl hc_78
            replace E := E.val (t := 197) rfl hc_78
            replace E := E.val (t := 198) rfl hc_78
            refine WL_guard_yes E rfl rfl ?_
            refine S_v E rfl (R_move E rfl) rfl ?_
            clear E a; intro a E
            refine WL_guard_yes E rfl rfl ?_
            refine S_v E rfl (R_move E rfl) rfl ?_
            clear E a; intro a E
            have S0 := S; clear S
            obtain ⟨M_79, hM_79, hz_80, S⟩ := S0.freezeR hr13 (RSl_mono RInt_mono) (by (first | omega | (simp; done) | (simp [winL_len]; done) | (simp [winL_len]; omega) | (simp; omega) | (simp only [someL, List.length_map]; have hfa := List.length_filter_le (fun i => decide (i % n2 = 0)) (List.range k); have hfb := List.length_filter_le (fun i => decide (i % n1 = 0)) (List.range k); simp only [List.length_range] at hfa hfb; omega)))
            clear S0
            replace hz_80 : RdII M_79 u13 (someL n1 n1 l0 k) := hz_80
            replace h0 := h0.le hM_79
            replace hz_4 := hz_4.le hM_79
            replace hv_6 := hv_6.le hM_79
            replace hv_8 := hv_8.le hM_79
            replace hv_50 := hv_50.le hM_79
            replace hv_52 := hv_52.le hM_79
            replace hv_54 := hv_54.le hM_79
            replace hv_56 := hv_56.le hM_79
            replace hv_58 := hv_58.le hM_79
            replace hv_60 := hv_60.le hM_79
            replace hv_62 := hv_62.le hM_79
            replace hz_64 := hz_64.le hM_79
            replace hz_68 := hz_68.le hM_79
            refine WL_guard_yes E rfl rfl ?_
            refine S_x (X_pu E S rfl rfl rfl (laws_eqLists hv_58 hz_80) (Hp.le.refl _) ?_)
            clear E a S; rintro a _ w M_81 hM_81 rfl S E
            replace h0 := h0.le hM_81
            replace hz_4 := hz_4.le hM_81
            replace hv_6 := hv_6.le hM_81
            replace hv_8 := hv_8.le hM_81
            replace hv_50 := hv_50.le hM_81
            replace hv_52 := hv_52.le hM_81
            replace hv_54 := hv_54.le hM_81
            replace hv_56 := hv_56.le hM_81
            replace hv_58 := hv_58.le hM_81
            replace hv_60 := hv_60.le hM_81
            replace hv_62 := hv_62.le hM_81
            replace hz_64 := hz_64.le hM_81
            replace hz_68 := hz_68.le hM_81
            replace hz_80 := hz_80.le hM_81
            refine S_v E rfl (R_pickT E rfl rfl) rfl ?_
            clear E a; intro a E
            refine S_v E rfl (R_assign E rfl) rfl ?_
            clear E a; intro a E
            refine WL_nil ?_
            refine T_n ?_
            refine WP_ret ?_
            exact F_ret1 E Try.results7 rfl ⟨_, rfl, M_81, (hM_3.trans (hM_5.trans (hM_9.trans (hM_10.trans (hM_20.trans (hM_49.trans (hM_51.trans (hM_53.trans (hM_55.trans (hM_57.trans (hM_59.trans (hM_61.trans (hM_63.trans (hM_65.trans (hM_67.trans (hM_69.trans (hM_71.trans (hM_73.trans (hM_75.trans (hM_77.trans (hM_79.trans hM_81))))))))))))))))))))), (congrArg Value.bool (by (clear S E; first | (simp; done) | decide | (rw [win_end (s := 1) (k := k) (by omega) (by assumption) (by omega)]; simp; done) | (rw [← win_end (s := 1) (k := k) (by omega) (by assumption) (by omega)]; simp; done) | (rw [some_end (k := k) hn hs (by assumption) (by omega)]; simp; done) | (rw [some_end (k := k) hn hn (by assumption) (by omega)]; simp; done)))), S⟩
theorem laws_FnWindows2 {M : Hp} {v0 : Value} {l0 : List Int} (h0 : RdI M v0 l0) {x1 x2 : Int} (g1 : 0 ≤ x1 ∧ x1 ≤ 255) (g2 : 0 ≤ x2 ∧ x2 ≤ 255) : PuC Try.prog 7 M [v0, .int .u8 x1, .int .u8 x2] (fun r M' => r = .bool true) := by
  obtain ⟨n1, rfl⟩ := Int.eq_ofNat_of_zero_le g1.1
  obtain ⟨n2, rfl⟩ := Int.eq_ofNat_of_zero_le g2.1
  exact laws_FnWindows h0 (by omega) (by omega)

end Go.Proofs.Ytbdacnblipmapaa.wFnWindows
