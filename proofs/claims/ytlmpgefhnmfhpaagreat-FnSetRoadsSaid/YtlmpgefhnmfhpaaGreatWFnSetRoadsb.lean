/- Walks through the functions that laws.FnSetRoads reaches: what each computes; no conditions beyond what each theorem states. -/
import Derived.Test.YtlmpgefhnmfhpaaGreatWFnSetRoadsa
set_option linter.unusedVariables false
set_option linter.unusedSimpArgs false
namespace Go.Proofs.YtlmpgefhnmfhpaaGreat.wFnSetRoads
open Go Go.Sl
set_option maxRecDepth 100000 in
set_option maxHeartbeats 4000000 in
theorem U_new {M : Hp} {n0 : Nat} (hb0 : n0 ≤ 1000000000000) :
    Sp Tryz.prog (.func (.func 85) #[] #[]) M [.int .i64 ((n0 : Nat) : Int)] [] (fun r M' C' => ∃ b m, r = .pointer (some ⟨b, 0, none⟩) ∧ C' = [blk b (.cells #[.map (some m)] 145), OwnS m []]) := by
  refine Sp_enter Tryz.func85 rfl Tryz.ntmps85 rfl Tryz.call85 ?_
  intro a w M1 H hM1 S E
  refine WP_seq ?_
  refine WP_region ?_
  refine S_v E rfl (R_assign E rfl) rfl ?_
  clear E a; intro a E
  refine WL_nil ?_
  refine T_n ?_
  refine WP_seq ?_
  refine WP_region ?_
  refine S_v E rfl (R_move E rfl) rfl ?_
  clear E a; intro a E
  refine S_x (X_makeMapR E S rfl MT145 rfl ?_)
  clear E a S; rintro a w b_1 E S
  replace S : St w M1 (OwnS b_1 ([] : List Int) :: _) := S
  refine S_x (X_alloc (cs := #[.map none]) E S rfl Tryz.zeroValue145 rfl ?_)
  clear E a S; rintro a w b_2 E S
  refine S_x0 (X_store E S rfl rfl (Tryz.sizeOf145 _) rfl ?_)
  clear E a S; rintro a w E S
  refine WL_nil ?_
  refine T_n ?_
  refine WP_seq ?_
  refine WP_region ?_
  refine S_v E rfl (R_assign E rfl) rfl ?_
  clear E a; intro a E
  refine WL_nil ?_
  refine T_n ?_
  refine WP_ret ?_
  replace S := S.front1
  replace S := S.front1
  exact F_ret1 E Tryz.results85 rfl ⟨_, rfl, M1, _, (Hp.le.refl _), ⟨_, _, rfl, rfl⟩, S⟩

set_option maxRecDepth 100000 in
set_option maxHeartbeats 4000000 in
theorem U_Add {M : Hp} {m9 : Nat} {l9 : List Int} {x0 : Int} :
    Sp Tryz.prog (.func (.func 86) #[] #[]) M [.map (some m9), .int .i64 x0] [OwnS m9 l9] (fun r M' C' => (∃ z, r = .bool z) ∧ C' = [OwnS m9 (addS l9 x0)]) := by
  refine Sp_enter Tryz.func86 rfl Tryz.ntmps86 rfl Tryz.call86 ?_
  intro a w M1 H hM1 S E
  replace S : St w M1 (OwnS m9 l9 :: _) := S
  refine WP_seq ?_
  refine WP_region ?_
  refine S_v E rfl (R_assign E rfl) rfl ?_
  clear E a; intro a E
  refine WL_nil ?_
  refine T_n ?_
  refine WP_seq ?_
  refine WP_region ?_
  refine S_v E rfl (R_move E rfl) rfl ?_
  clear E a; intro a E
  refine S_v E rfl ((R_lenO E S MT145 rfl).trans (by rw [encS_len])) rfl ?_
  clear E a; intro a E
  refine S_v E rfl (R_assign E rfl) rfl ?_
  clear E a; intro a E
  refine WL_nil ?_
  refine T_n ?_
  refine WP_seq ?_
  refine WP_region ?_
  refine S_v E rfl (R_move E rfl) rfl ?_
  clear E a; intro a E
  refine S_v E rfl (R_move E rfl) rfl ?_
  clear E a; intro a E
  refine S_v E rfl (R_build (u := .agg #[]) (vs := []) E rfl (fun w => FB104__  w)) rfl ?_
  clear E a; intro a E
  refine S_x0 (X_updateS E S MT145 rfl rfl rfl ?_)
  clear E a S; rintro a w E S
  refine WL_nil ?_
  refine T_n ?_
  refine WP_seq ?_
  refine WP_region ?_
  refine S_v E rfl (R_move E rfl) rfl ?_
  clear E a; intro a E
  refine S_v E rfl (R_move E rfl) rfl ?_
  clear E a; intro a E
  refine S_v E rfl ((R_lenO E S MT145 rfl).trans (by rw [encS_len])) rfl ?_
  clear E a; intro a E
  refine S_v E rfl (R_neq E rfl rfl) rfl ?_
  clear E a; intro a E
  refine S_v E rfl (R_assign E rfl) rfl ?_
  clear E a; intro a E
  refine WL_nil ?_
  refine T_n ?_
  refine WP_ret ?_
  exact F_ret1 E Tryz.results86 rfl ⟨_, rfl, M1, _, (Hp.le.refl _), ⟨⟨_, rfl⟩, rfl⟩, S⟩

set_option maxRecDepth 100000 in
set_option maxHeartbeats 4000000 in
theorem U_NewSet {M : Hp} {v0 : Value} {l0 : List Int} (h0 : RdI M v0 l0)(hb : l0.length ≤ 1000000000) :
    Pu Tryz.prog (.func (.func 59) #[] #[]) M [v0] (fun r M' => (∃ p, r = .iface 116 p ∧ RdSU 145 M' p l0)) := by
  refine Pu_enter Tryz.func59 rfl Tryz.ntmps59 rfl Tryz.call59 ?_
  intro a w M1 H hM1 S E
  replace h0 := h0.le hM1
  have b0 := h0.bound
  refine WP_seq ?_
  refine WP_region ?_
  refine S_v E rfl (R_assign E rfl) rfl ?_
  clear E a; intro a E
  refine WL_nil ?_
  refine T_n ?_
  refine WP_seq ?_
  refine WP_region ?_
  refine S_v E rfl (R_move E rfl) rfl ?_
  clear E a; intro a E
  refine S_v E rfl (R_lenV E rfl T22 h0.len) rfl ?_
  clear E a; intro a E
  refine S_x (X_sp (p := []) E S rfl rfl rfl (U_new (by first | assumption | omega)) (Hp.le.refl _) ?_)
  clear E a S; rintro a _ w M_1 _ hM_1 ⟨b_3, mm_4, rfl, rfl⟩ S E
  replace S : St w M_1 (blk b_3 (.cells #[.map (some mm_4)] 145) :: OwnS mm_4 ([] : List Int) :: H) := S
  replace h0 := h0.le hM_1
  refine S_v E rfl (R_assign E rfl) rfl ?_
  clear E a; intro a E
  refine WL_nil ?_
  refine T_n ?_
  refine WP_seq ?_
  refine WP_seq ?_
  refine WP_region ?_
  refine S_v E rfl (R_move E rfl) rfl ?_
  clear E a; intro a E
  refine S_v E rfl (R_lenV E rfl T22 h0.len) rfl ?_
  clear E a; intro a E
  refine S_v E rfl (R_move E rfl) rfl ?_
  clear E a; intro a E
  refine WL_nil ?_
  refine T_n ?_
  refine WP_block ?_
  replace S := S.front1
  replace S := S.reM (L' := (Sl.encS (addsL [] (l0.take 0)))) (congrArg Sl.encS (show ([] : List Int) = (addsL [] (l0.take 0)) by (first | rfl | (simp [addsL]; done) | (rw [List.take_add_one]; simp [*, addsL_snoc]; done))))
  refine WP_loop (γ := Nat) (fun (k : Nat) a w => ∃ (M_5 : Hp), Hp.le M_1 M_5 ∧ St w M_5 (OwnS mm_4 (addsL [] (l0.take k)) :: blk b_3 (.cells #[.map (some mm_4)] 145) :: H) ∧ Env a 23 [] [(3, .pointer (some ⟨b_3, 0, none⟩)), (9, v0), (10, .int .i64 (((l0).length : Nat) : Int)), (11, .int .i64 ((k : Nat) : Int))] ∧ (k ≤ (l0).length)) (fun k => ((l0).length) - k) 0 ⟨M_1, Hp.le.refl _, S, E.keep ⟨rfl, rfl, rfl, rfl, trivial⟩, by ((try clear S); (try clear E); first | assumption | omega | rfl | (simp; done) | (simp_all; done) | (simp [List.take_add_one, *]; done) | grind [List.take_add_one])⟩ ?_
  try clear E
  try clear S
  try clear a
  try clear w
  rintro k a w ⟨M_5, hM_5, S, E, hL0_0⟩
  replace h0 := h0.le hM_5
  refine WP_seq ?_
  refine WP_region ?_
  refine S_v E rfl (R_lss E rfl rfl) rfl ?_
  clear E a; intro a E
  refine WL_nil ?_
  refine T_n ?_
  refine WP_seq ?_
  refine WP_cond E rfl (fun hc_6 => ?_) (fun hc_6 => ?_)
  · replace hc_6 := of_decide_eq_true hc_6
    refine WP_skip ?_
    refine T_n ?_
    refine WP_seq ?_
    refine WP_block ?_
    refine WP_seq ?_
    refine WP_region ?_
    obtain ⟨x_7, hx_7⟩ : ∃ x, (l0)[k]? = some x := ⟨_, List.getElem?_eq_getElem (by first | omega | (simp; done) | (simp; omega) | (simp_all; omega))⟩
    obtain ⟨p_8, hp_8, qp_8⟩ := h0.at hx_7
    refine S_v E rfl (R_idx E rfl rfl T22 hp_8 rfl) rfl ?_
    clear E a; intro a E
    refine S_v E rfl (R_loadM E rfl Tryz.isAgg3 S.imm qp_8) rfl ?_
    clear E a; intro a E
    refine S_v E rfl (R_assign E rfl) rfl ?_
    clear E a; intro a E
    refine WL_nil ?_
    refine T_n ?_
    refine WP_region ?_
    refine S_v E rfl (R_move E rfl) rfl ?_
    clear E a; intro a E
    refine S_v E rfl (R_nilCheck E rfl rfl) rfl ?_
    clear E a; intro a E
    refine S_v E rfl (R_load E rfl (Tryz.isAgg145 _) (cell_blk (S.mem (.tail _ (.head _))))) rfl ?_
    clear E a; intro a E
    refine S_v E rfl (R_move E rfl) rfl ?_
    clear E a; intro a E
    refine S_x (X_sp (p := [OwnS mm_4 (addsL [] (l0.take k))]) E S rfl rfl rfl (U_Add) (Hp.le.refl _) ?_)
    clear E a S; rintro a _ w M_9 _ hM_9 ⟨⟨_, rfl⟩, rfl⟩ S E
    replace S : St w M_9 (OwnS mm_4 (addS (addsL [] (l0.take k)) x_7) :: blk b_3 (.cells #[.map (some mm_4)] 145) :: H) := S
    replace h0 := h0.le hM_9
    refine WL_nil ?_
    refine B_n ?_
    refine T_n ?_
    refine WP_region ?_
    refine S_v E rfl (R_addx (m := ((k + 1 : Nat) : Int)) E rfl rfl (by omega) (by omega)) rfl ?_
    clear E a; intro a E
    refine S_v E rfl (R_move E rfl) rfl ?_
    clear E a; intro a E
    refine WL_nil ?_
    refine T_n ?_
    replace S := S.reM (L' := (Sl.encS (addsL [] (l0.take (k + 1))))) (congrArg Sl.encS (show addS (addsL [] (l0.take k)) x_7 = (addsL [] (l0.take (k + 1))) by (first | rfl | (simp [addsL]; done) | (rw [List.take_add_one]; simp [*, addsL_snoc]; done))))
    exact ⟨k + 1, ⟨M_9, (hM_5.trans hM_9), S, E.keep ⟨rfl, rfl, rfl, rfl, trivial⟩, by ((try clear S); (try clear E); first | assumption | omega | rfl | (simp; done) | (simp_all; done) | (simp [List.take_add_one, *]; done) | grind [List.take_add_one])⟩, by omega⟩
  · replace hc_6 := of_decide_eq_false hc_6
    refine WP_exit ?_
    refine T_x ?_
    refine T_x ?_
    refine B_x ?_
    refine T_n ?_
    refine WP_seq ?_
    refine WP_region ?_
    refine S_v E rfl (R_move E rfl) rfl ?_
    clear E a; intro a E
    have S0 := S; clear S
    obtain ⟨M_10, hM_10, hm_11, S⟩ := S0.freezeM
    clear S0
    replace h0 := h0.le hM_10
    have S0 := S; clear S
    obtain ⟨M_12, hM_12, hb_13, S⟩ := S0.freezeB
    clear S0
    replace h0 := h0.le hM_12
    replace hm_11 := hm_11.le hM_12
    refine S_v E rfl (R_ifaceP E rfl Tryz.underlying116) rfl ?_
    clear E a; intro a E
    refine S_v E rfl (R_assign E rfl) rfl ?_
    clear E a; intro a E
    refine WL_nil ?_
    refine T_n ?_
    refine WP_ret ?_
    exact F_ret1 E Tryz.results59 rfl ⟨_, rfl, M_12, (hM_1.trans (hM_5.trans (hM_10.trans hM_12))), ⟨_, rfl, ⟨_, _, (addsL [] (l0.take k)), rfl, hb_13, hm_11, (by first | assumption | exact addsL_nodup _ _ List.nodup_nil | exact addsL_nodup _ _ (addsL_nodup _ _ List.nodup_nil)), (by (intro x; rw [List.take_of_length_le (by omega)]; simp [mem_addsL]))⟩⟩, S⟩

set_option maxRecDepth 100000 in
set_option maxHeartbeats 4000000 in
theorem U_setOf {M : Hp} {v1 : Value} {l1 : List Int} (h1 : RdI M v1 l1)(hb : l1.length ≤ 1000000000) :
    Pu Tryz.prog (.func (.func 41) #[] #[]) M [.bool false, v1] (fun r M' => (∃ p, r = .iface 116 p ∧ RdSU 145 M' p l1)) := by
  refine Pu_enter Tryz.func41 rfl Tryz.ntmps41 rfl Tryz.call41 ?_
  intro a w M1 H hM1 S E
  replace h1 := h1.le hM1
  have b1 := h1.bound
  refine WP_seq ?_
  refine WP_region ?_
  refine S_v E rfl (R_assign E rfl) rfl ?_
  clear E a; intro a E
  refine WL_nil ?_
  refine T_n ?_
  refine WP_seq ?_
  refine WP_seq ?_
  refine WP_region ?_
  refine S_v E rfl (R_move E rfl) rfl ?_
  clear E a; intro a E
  refine WL_nil ?_
  refine T_n ?_
  refine WP_condF E rfl rfl ?_
  refine WP_skip ?_
  refine T_n ?_
  refine WP_seq ?_
  refine WP_region ?_
  refine S_v E rfl (R_move E rfl) rfl ?_
  clear E a; intro a E
  refine S_x (X_pu E S rfl rfl rfl (U_NewSet h1 (by first | assumption | omega)) (Hp.le.refl _) ?_)
  clear E a S; rintro a _ w M_1 hM_1 ⟨v_2, rfl, hv_2⟩ S E
  replace h1 := h1.le hM_1
  refine S_v E rfl (R_assign E rfl) rfl ?_
  clear E a; intro a E
  refine WL_nil ?_
  refine T_n ?_
  refine WP_ret ?_
  exact F_ret1 E Tryz.results41 rfl ⟨_, rfl, M_1, hM_1, ⟨_, rfl, hv_2⟩, S⟩

set_option maxRecDepth 100000 in
set_option maxHeartbeats 4000000 in
theorem U_twoSets {M : Hp} {v1 v2 : Value} {l1 l2 : List Int} (h1 : RdI M v1 l1) (h2 : RdI M v2 l2)(hb1 : l1.length ≤ 100000000) (hb2 : l2.length ≤ 100000000)  :
    Pu Tryz.prog (.func (.func 38) #[] #[]) M [.bool false, v1, v2] (fun r M' => ∃ t0 t1, r = .tuple #[t0, t1] ∧ (∃ p, t0 = .iface 116 p ∧ RdSU 145 M' p l1) ∧ (∃ p, t1 = .iface 116 p ∧ RdSU 145 M' p l2)) := by
  refine Pu_enter Tryz.func38 rfl Tryz.ntmps38 rfl Tryz.call38 ?_
  intro a w M1 H hM1 S E
  replace h1 := h1.le hM1
  replace h2 := h2.le hM1
  have b1 := h1.bound
  have b2 := h2.bound
  refine WP_seq ?_
  refine WP_region ?_
  refine S_v E rfl (R_assign E rfl) rfl ?_
  clear E a; intro a E
  refine S_v E rfl (R_assign E rfl) rfl ?_
  clear E a; intro a E
  refine WL_nil ?_
  refine T_n ?_
  refine WP_seq ?_
  refine WP_region ?_
  refine S_v E rfl (R_move E rfl) rfl ?_
  clear E a; intro a E
  refine S_v E rfl (R_move E rfl) rfl ?_
  clear E a; intro a E
  refine S_x (X_pu E S rfl rfl rfl (U_setOf h1 (by first | assumption | omega)) (Hp.le.refl _) ?_)
  clear E a S; rintro a _ w M_1 hM_1 ⟨v_2, rfl, hv_2⟩ S E
  replace h1 := h1.le hM_1
  replace h2 := h2.le hM_1
  refine S_v E rfl (R_move E rfl) rfl ?_
  clear E a; intro a E
  refine S_v E rfl (R_move E rfl) rfl ?_
  clear E a; intro a E
  refine S_x (X_pu E S rfl rfl rfl (U_setOf h2 (by first | assumption | omega)) (Hp.le.refl _) ?_)
  clear E a S; rintro a _ w M_3 hM_3 ⟨v_4, rfl, hv_4⟩ S E
  replace h1 := h1.le hM_3
  replace h2 := h2.le hM_3
  replace hv_2 := hv_2.le hM_3
  refine S_v E rfl (R_assign E rfl) rfl ?_
  clear E a; intro a E
  refine S_v E rfl (R_assign E rfl) rfl ?_
  clear E a; intro a E
  refine WL_nil ?_
  refine T_n ?_
  refine WP_ret ?_
  exact F_ret2 E Tryz.results38 rfl rfl ⟨_, rfl, M_3, (hM_1.trans hM_3), ⟨_, _, rfl, ⟨_, rfl, hv_2⟩, ⟨_, rfl, hv_4⟩⟩, S⟩

set_option maxRecDepth 100000 in
set_option maxHeartbeats 4000000 in
theorem U_Cardinality {M : Hp} {v0 : Value} {c0 : List Int} (h0 : RdSU 145 M v0 c0) (b0 : c0.length ≤ 1000000000)  :
    Pu Tryz.prog (.func (.func 205) #[] #[]) M [v0] (fun r M' => r = .int .i64 ((card c0 : Nat) : Int)) := by
  refine Pu_enter Tryz.func205 rfl Tryz.ntmps205 rfl Tryz.call205 ?_
  intro a w M1 H hM1 S E
  replace h0 := h0.le hM1
  refine WP_seq ?_
  refine WP_region ?_
  refine S_v E rfl (R_assign E rfl) rfl ?_
  clear E a; intro a E
  refine WL_nil ?_
  refine T_n ?_
  refine WP_seq ?_
  refine WP_region ?_
  refine S_v E rfl (R_move E rfl) rfl ?_
  clear E a; intro a E
  have hset := h0
  obtain ⟨sb0, sm0, sq0, se0, shb0, shm0, shn0, shq0⟩ := hset
  have shq0l : sq0.length ≤ c0.length := nodup_len shn0 fun z hz => (shq0 z).1 hz
  refine S_v E rfl (R_nilCheck E rfl se0) rfl ?_
  clear E a; intro a E
  refine S_v E rfl (R_loadM E (congrArg some se0) Tryz.isAgg145 S.imm (cellM_box shb0)) rfl ?_
  clear E a; intro a E
  refine S_v E rfl ((R_lenF S.imm shm0 E MT145 rfl).trans (by rw [encS_len])) rfl ?_
  clear E a; intro a E
  refine S_v E rfl (R_assign E rfl) rfl ?_
  clear E a; intro a E
  refine WL_nil ?_
  refine T_n ?_
  refine WP_ret ?_
  exact F_ret1 E Tryz.results205 rfl ⟨_, rfl, M1, (Hp.le.refl _), (congrArg (Value.int .i64) (by (congr 1; exact card_eq (by assumption) (by assumption)))), S⟩

set_option maxRecDepth 100000 in
set_option maxHeartbeats 4000000 in
theorem U_add {M : Hp} {b9 m9 : Nat} {l9 : List Int} {x0 : Int} :
    Sp Tryz.prog (.func (.func 206) #[] #[]) M [.pointer (some ⟨b9, 0, none⟩), .int .i64 x0] [blk b9 (.cells #[.map (some m9)] 145), OwnS m9 l9] (fun r M' C' => r = .tuple #[] ∧ C' = [blk b9 (.cells #[.map (some m9)] 145), OwnS m9 (addS l9 x0)]) := by
  refine Sp_enter Tryz.func206 rfl Tryz.ntmps206 rfl Tryz.call206 ?_
  intro a w M1 H hM1 S E
  replace S : St w M1 (blk b9 (.cells #[.map (some m9)] 145) :: OwnS m9 l9 :: _) := S
  refine WP_region ?_
  refine S_v E rfl (R_move E rfl) rfl ?_
  clear E a; intro a E
  refine S_v E rfl (R_nilCheck E rfl rfl) rfl ?_
  clear E a; intro a E
  refine S_v E rfl (R_load E rfl (Tryz.isAgg145 _) (cell_blk (S.mem (.head _)))) rfl ?_
  clear E a; intro a E
  refine S_v E rfl (R_move E rfl) rfl ?_
  clear E a; intro a E
  refine S_v E rfl (R_build (u := .agg #[]) (vs := []) E rfl (fun w => FB104__  w)) rfl ?_
  clear E a; intro a E
  replace S := S.front1
  refine S_x0 (X_updateS E S MT145 rfl rfl rfl ?_)
  clear E a S; rintro a w E S
  refine WL_nil ?_
  refine F_nrm ?_
  replace S := S.front1
  exact F_ret0 E Tryz.results206 ⟨_, rfl, M1, _, (Hp.le.refl _), ⟨rfl, rfl⟩, S⟩

set_option maxRecDepth 100000 in
set_option maxHeartbeats 4000000 in
theorem U_Union {M : Hp} {m0 : Value} {q0 c0 : List Int} (hm0 : RdM M m0 (Sl.encS q0)) (hn0 : q0.Nodup) (hq0 : ∀ x, x ∈ q0 ↔ x ∈ c0) {v1 : Value} {c1 : List Int} (h1 : RdSU 145 M v1 c1) (b0 : c0.length ≤ 1000000000) (b1 : c1.length ≤ 1000000000)  :
    Pu Tryz.prog (.func (.func 202) #[] #[]) M [m0, .iface 116 v1] (fun r M' => (∃ p, r = .iface 116 p ∧ RdSU 145 M' p (c0 ++ c1))) := by
  refine Pu_enter Tryz.func202 rfl Tryz.ntmps202 rfl Tryz.call202 ?_
  intro a w M1 H hM1 S E
  replace hm0 := hm0.le hM1
  replace h1 := h1.le hM1
  have hql0 : q0.length ≤ c0.length := nodup_len hn0 fun z hz => (hq0 z).1 hz
  have hcl0 := card_le c0
  have hcl1 := card_le c1
  refine WP_seq ?_
  refine WP_region ?_
  refine S_x (X_box (cs := #[m0]) E S rfl rfl (cells_one (RdM.one' hm0)) ?_)
  clear E a S; rintro a w b_1 E S
  obtain ⟨M_2, hM_2, hb_1, S⟩ := S.freezeB
  replace hm0 := hm0.le hM_2
  replace h1 := h1.le hM_2
  refine S_v E rfl (R_assign E rfl) rfl ?_
  clear E a; intro a E
  refine WL_nil ?_
  refine T_n ?_
  refine WP_seq ?_
  refine WP_region ?_
  refine S_v E rfl (R_move E rfl) rfl ?_
  clear E a; intro a E
  refine S_v E rfl (R_assert E rfl Tryz.underlying116 (by intro z hz; cases hz)) rfl ?_
  clear E a; intro a E
  refine S_v E rfl (R_assign E rfl) rfl ?_
  clear E a; intro a E
  refine WL_nil ?_
  refine T_n ?_
  refine WP_seq ?_
  refine WP_region ?_
  refine S_x (X_pu E S rfl rfl rfl (U_Cardinality (⟨_, _, _, rfl, hb_1, hm0, hn0, hq0⟩ : RdSU 145 M_2 (.pointer (some ⟨b_1, 0, none⟩)) c0) (by first | assumption | omega)) (Hp.le.refl _) ?_)
  clear E a S; rintro a _ w M_3 hM_3 rfl S E
  replace hm0 := hm0.le hM_3
  replace h1 := h1.le hM_3
  replace hb_1 := hM_3.2 _ _ hb_1
  refine S_v E rfl (R_move E rfl) rfl ?_
  clear E a; intro a E
  refine S_x (X_pu E S rfl rfl rfl (U_Cardinality h1 (by first | assumption | omega)) (Hp.le.refl _) ?_)
  clear E a S; rintro a _ w M_4 hM_4 rfl S E
  replace hm0 := hm0.le hM_4
  replace h1 := h1.le hM_4
  replace hb_1 := hM_4.2 _ _ hb_1
  refine S_v E rfl (R_addx (m := ((card c0 + card c1 : Nat) : Int)) E rfl rfl (by omega) (by omega)) rfl ?_
  clear E a; intro a E
  refine S_v E rfl (R_assign E rfl) rfl ?_
  clear E a; intro a E
  refine WL_nil ?_
  refine T_n ?_
  refine WP_seq ?_
  refine WP_region ?_
  refine S_v E rfl (R_move E rfl) rfl ?_
  clear E a; intro a E
  refine S_x (X_makeMapR E S rfl MT145 rfl ?_)
  clear E a S; rintro a w b_5 E S
  replace S : St w M_4 (OwnS b_5 ([] : List Int) :: _) := S
  refine S_x (X_alloc (cs := #[.map none]) E S rfl Tryz.zeroValue145 rfl ?_)
  clear E a S; rintro a w b_6 E S
  refine S_x0 (X_store E S rfl rfl (Tryz.sizeOf145 _) rfl ?_)
  clear E a S; rintro a w E S
  refine WL_nil ?_
  refine T_n ?_
  refine WP_seq ?_
  refine WP_seq ?_
  refine WP_region ?_
  refine S_v E rfl (R_loadM E rfl Tryz.isAgg145 S.imm (cellM_box hb_1)) rfl ?_
  clear E a; intro a E
  refine S_x (X_range E S rfl MT145 hm0 rfl ?_)
  clear E a S; rintro a w i_7 es_8 ck_9 E hf_10 S
  replace S : St w M_4 (ItO m0 es_8 ck_9 i_7 (Sl.encS ([] : List Int)) :: _) := S
  refine WL_nil ?_
  refine T_n ?_
  refine WP_block ?_
  replace S := S.front2
  replace S := S.front1
  replace S := S.front1
  replace S := S.reM (L' := (Sl.encS (addsL [] []))) (congrArg Sl.encS (show ([] : List Int) = (addsL [] []) by (first | rfl | (simp [addsL_snoc]; done) | (simp [addsL_snoc, List.filter_append, *]; done))))
  replace S := S.front1
  replace S := S.reIt (p' := (Sl.encS [])) (congrArg Sl.encS (show ([] : List Int) = [] by (first | rfl | (simp [addsL_snoc]; done) | (simp [addsL_snoc, List.filter_append, *]; done))))
  refine WP_loop (γ := List Int) (fun (p : List Int) a w => ∃ (M_11 : Hp), Hp.le M_4 M_11 ∧ St w M_11 (ItO m0 es_8 ck_9 i_7 (Sl.encS p) :: OwnS b_5 (addsL [] p) :: blk b_6 (.cells #[.map (some b_5)] 145) :: H) ∧ Env a 37 [] [(5, v1), (7, .pointer (some ⟨b_6, 0, none⟩)), (19, .pointer (some ⟨i_7, 0, none⟩))] ∧ (p.Nodup) ∧ (∀ z ∈ p, z ∈ q0) ∧ (p.length ≤ q0.length)) (fun p => q0.length - p.length) [] ⟨M_4, Hp.le.refl _, S, E.keep ⟨rfl, rfl, rfl, trivial⟩, (by simp), (by simp), (by simp)⟩ ?_
  try clear E
  try clear S
  try clear a
  try clear w
  rintro p a w ⟨M_11, hM_11, S, E, hL0_0, hL0_1, hL0_2⟩
  replace hm0 := hm0.le hM_11
  replace h1 := h1.le hM_11
  replace hb_1 := hM_11.2 _ _ hb_1
  replace hf_10 := hf_10.le hM_11
  refine WP_seq ?_
  refine WP_region ?_
  refine S_x (X_nextS E S rfl hf_10 rfl (by assumption) (by assumption) ?_ ?_)
  · clear E a S; rintro a E hpm_12 S
    refine S_v E rfl (R_extract E rfl rfl) rfl ?_
    clear E a; intro a E
    refine WL_nil ?_
    refine T_n ?_
    refine WP_seq ?_
    refine WP_condF E rfl rfl ?_
    refine WP_exit ?_
    refine T_x ?_
    refine T_x ?_
    refine B_x ?_
    refine T_n ?_
    refine WP_seq ?_
    refine WP_seq ?_
    refine WP_region ?_
    refine S_v E rfl (R_move E rfl) rfl ?_
    clear E a; intro a E
    have hset := h1
    obtain ⟨sb1, sm1, sq1, se1, shb1, shm1, shn1, shq1⟩ := hset
    have shq1l : sq1.length ≤ c1.length := nodup_len shn1 fun z hz => (shq1 z).1 hz
    refine S_v E rfl (R_nilCheck E rfl se1) rfl ?_
    clear E a; intro a E
    refine S_v E rfl (R_loadM E (congrArg some se1) Tryz.isAgg145 S.imm (cellM_box shb1)) rfl ?_
    clear E a; intro a E
    refine S_x (X_range E S rfl MT145 shm1 rfl ?_)
    clear E a S; rintro a w i_13 es_14 ck_15 E hf_16 S
    replace S : St w M_11 (ItO sm1 es_14 ck_15 i_13 (Sl.encS ([] : List Int)) :: _) := S
    refine WL_nil ?_
    refine T_n ?_
    refine WP_block ?_
    replace S := S.front2
    replace S := S.front1
    replace S := S.front1
    replace S := S.reM (L' := (Sl.encS (addsL (addsL [] p) []))) (congrArg Sl.encS (show (addsL [] p) = (addsL (addsL [] p) []) by (first | rfl | (simp [addsL_snoc]; done) | (simp [addsL_snoc, List.filter_append, *]; done))))
    replace S := S.front1
    replace S := S.reIt (p' := (Sl.encS [])) (congrArg Sl.encS (show ([] : List Int) = [] by (first | rfl | (simp [addsL_snoc]; done) | (simp [addsL_snoc, List.filter_append, *]; done))))
    refine WP_loop (γ := List Int) (fun (r : List Int) a w => ∃ (M_17 : Hp), Hp.le M_11 M_17 ∧ St w M_17 (ItO sm1 es_14 ck_15 i_13 (Sl.encS r) :: OwnS b_5 (addsL (addsL [] p) r) :: ItO m0 es_8 ck_9 i_7 (Sl.encS p) :: blk b_6 (.cells #[.map (some b_5)] 145) :: H) ∧ Env a 37 [] [(7, .pointer (some ⟨b_6, 0, none⟩)), (29, .pointer (some ⟨i_13, 0, none⟩))] ∧ (r.Nodup) ∧ (∀ z ∈ r, z ∈ sq1) ∧ (r.length ≤ sq1.length)) (fun r => sq1.length - r.length) [] ⟨M_11, Hp.le.refl _, S, E.keep ⟨rfl, rfl, trivial⟩, (by simp), (by simp), (by simp)⟩ ?_
    try clear E
    try clear S
    try clear a
    try clear w
    rintro r a w ⟨M_17, hM_17, S, E, hL1_0, hL1_1, hL1_2⟩
    replace hm0 := hm0.le hM_17
    replace h1 := h1.le hM_17
    replace hb_1 := hM_17.2 _ _ hb_1
    replace hf_10 := hf_10.le hM_17
    replace shb1 := hM_17.2 _ _ shb1
    replace shm1 := shm1.le hM_17
    replace hf_16 := hf_16.le hM_17
    refine WP_seq ?_
    refine WP_region ?_
    refine S_x (X_nextS E S rfl hf_16 rfl (by assumption) (by assumption) ?_ ?_)
    · clear E a S; rintro a E hpm_18 S
      refine S_v E rfl (R_extract E rfl rfl) rfl ?_
      clear E a; intro a E
      refine WL_nil ?_
      refine T_n ?_
      refine WP_seq ?_
      refine WP_condF E rfl rfl ?_
      refine WP_exit ?_
      refine T_x ?_
      refine T_x ?_
      refine B_x ?_
      refine T_n ?_
      refine WP_seq ?_
      refine WP_region ?_
      replace S := S.front1
      have S0 := S; clear S
      obtain ⟨M_19, hM_19, hm_20, S⟩ := S0.freezeM
      clear S0
      replace hm0 := hm0.le hM_19
      replace h1 := h1.le hM_19
      replace hb_1 := hM_19.2 _ _ hb_1
      replace hf_10 := hf_10.le hM_19
      replace shb1 := hM_19.2 _ _ shb1
      replace shm1 := shm1.le hM_19
      replace hf_16 := hf_16.le hM_19
      replace S := S.front2
      have S0 := S; clear S
      obtain ⟨M_21, hM_21, hb_22, S⟩ := S0.freezeB
      clear S0
      replace hm0 := hm0.le hM_21
      replace h1 := h1.le hM_21
      replace hb_1 := hM_21.2 _ _ hb_1
      replace hf_10 := hf_10.le hM_21
      replace shb1 := hM_21.2 _ _ shb1
      replace shm1 := shm1.le hM_21
      replace hf_16 := hf_16.le hM_21
      replace hm_20 := hm_20.le hM_21
      refine S_v E rfl (R_ifaceP E rfl Tryz.underlying116) rfl ?_
      clear E a; intro a E
      refine S_v E rfl (R_assign E rfl) rfl ?_
      clear E a; intro a E
      refine WL_nil ?_
      refine T_n ?_
      refine WP_ret ?_
      exact F_ret1 E Tryz.results202 rfl ⟨_, rfl, M_21, (hM_2.trans (hM_3.trans (hM_4.trans (hM_11.trans (hM_17.trans (hM_19.trans hM_21)))))), ⟨_, rfl, ⟨_, _, (addsL (addsL [] p) r), rfl, hb_22, hm_20, (by first | assumption | exact addsL_nodup _ _ List.nodup_nil | exact addsL_nodup _ _ (addsL_nodup _ _ List.nodup_nil)), (by (intro x; have ep := (List.Perm.mem_iff (a := x) (show p.Perm q0 by first | assumption | (exact List.Perm.symm (by assumption)))).trans (hq0 x); have er := (List.Perm.mem_iff (a := x) (show r.Perm sq1 by first | assumption | (exact List.Perm.symm (by assumption)))).trans (shq1 x); simp only [mem_addsL, List.not_mem_nil, false_or, List.mem_append, List.mem_filter, decide_eq_true_eq, List.nil_append]; simp only [ep, er]))⟩⟩, S.drop.drop⟩
    · clear E a S w; rintro a w k_23 E hk_24 hk_24n hk_24l S
      refine S_v E rfl (R_extract E rfl rfl) rfl ?_
      clear E a; intro a E
      refine WL_nil ?_
      refine T_n ?_
      refine WP_seq ?_
      refine WP_condT E rfl rfl ?_
      refine WP_skip ?_
      refine T_n ?_
      refine WP_block ?_
      refine WP_seq ?_
      refine WP_region ?_
      refine S_v E rfl (R_entry (k := k_23) (v := .agg #[]) E (by have S1 := S; simp only [Sl.encS, List.map_append, List.map_cons, List.map_nil] at S1; exact S1) hf_16 rfl) rfl ?_
      clear E a; intro a E
      refine S_v E rfl (R_extract E rfl rfl) rfl ?_
      clear E a; intro a E
      refine S_v E rfl (R_assign E rfl) rfl ?_
      clear E a; intro a E
      refine WL_nil ?_
      refine T_n ?_
      refine WP_region ?_
      refine S_v E rfl (R_move E rfl) rfl ?_
      clear E a; intro a E
      replace S := S.front1
      replace S := S.front3
      refine S_x (X_sp (p := [blk b_6 (.cells #[.map (some b_5)] 145), OwnS b_5 (addsL (addsL [] p) r)]) E S rfl rfl rfl (U_add) (Hp.le.refl _) ?_)
      clear E a S; rintro a _ w M_25 _ hM_25 ⟨rfl, rfl⟩ S E
      replace S : St w M_25 (blk b_6 (.cells #[.map (some b_5)] 145) :: OwnS b_5 (addS (addsL (addsL [] p) r) k_23) :: ItO sm1 es_14 ck_15 i_13 (Sl.encS (r ++ [k_23])) :: ItO m0 es_8 ck_9 i_7 (Sl.encS p) :: H) := S
      replace hm0 := hm0.le hM_25
      replace h1 := h1.le hM_25
      replace hb_1 := hM_25.2 _ _ hb_1
      replace hf_10 := hf_10.le hM_25
      replace shb1 := hM_25.2 _ _ shb1
      replace shm1 := shm1.le hM_25
      replace hf_16 := hf_16.le hM_25
      refine WL_nil ?_
      refine B_n ?_
      refine T_n ?_
      replace S := S.front3
      replace S := S.front2
      replace S := S.front3
      replace S := S.front1
      replace S := S.reM (L' := (Sl.encS (addsL (addsL [] p) (r ++ [k_23])))) (congrArg Sl.encS (show addS (addsL (addsL [] p) r) k_23 = (addsL (addsL [] p) (r ++ [k_23])) by (first | rfl | (simp [addsL_snoc]; done) | (simp [addsL_snoc, List.filter_append, *]; done))))
      replace S := S.front1
      replace S := S.reIt (p' := (Sl.encS (r ++ [k_23]))) (congrArg Sl.encS (show r ++ [k_23] = (r ++ [k_23]) by (first | rfl | (simp [addsL_snoc]; done) | (simp [addsL_snoc, List.filter_append, *]; done))))
      exact ⟨(r ++ [k_23]), ⟨M_25, (hM_17.trans hM_25), S, E.keep ⟨rfl, rfl, trivial⟩, (by exact snocN (by assumption) (by assumption)), (by exact snocS (by assumption) (by assumption)), (by simp; omega)⟩, (by simp; omega)⟩
  · clear E a S w; rintro a w k_26 E hk_27 hk_27n hk_27l S
    refine S_v E rfl (R_extract E rfl rfl) rfl ?_
    clear E a; intro a E
    refine WL_nil ?_
    refine T_n ?_
    refine WP_seq ?_
    refine WP_condT E rfl rfl ?_
    refine WP_skip ?_
    refine T_n ?_
    refine WP_block ?_
    refine WP_seq ?_
    refine WP_region ?_
    refine S_v E rfl (R_entry (k := k_26) (v := .agg #[]) E (by have S1 := S; simp only [Sl.encS, List.map_append, List.map_cons, List.map_nil] at S1; exact S1) hf_10 rfl) rfl ?_
    clear E a; intro a E
    refine S_v E rfl (R_extract E rfl rfl) rfl ?_
    clear E a; intro a E
    refine S_v E rfl (R_assign E rfl) rfl ?_
    clear E a; intro a E
    refine WL_nil ?_
    refine T_n ?_
    refine WP_region ?_
    refine S_v E rfl (R_move E rfl) rfl ?_
    clear E a; intro a E
    replace S := S.front1
    replace S := S.front2
    refine S_x (X_sp (p := [blk b_6 (.cells #[.map (some b_5)] 145), OwnS b_5 (addsL [] p)]) E S rfl rfl rfl (U_add) (Hp.le.refl _) ?_)
    clear E a S; rintro a _ w M_28 _ hM_28 ⟨rfl, rfl⟩ S E
    replace S : St w M_28 (blk b_6 (.cells #[.map (some b_5)] 145) :: OwnS b_5 (addS (addsL [] p) k_26) :: ItO m0 es_8 ck_9 i_7 (Sl.encS (p ++ [k_26])) :: H) := S
    replace hm0 := hm0.le hM_28
    replace h1 := h1.le hM_28
    replace hb_1 := hM_28.2 _ _ hb_1
    replace hf_10 := hf_10.le hM_28
    refine WL_nil ?_
    refine B_n ?_
    refine T_n ?_
    replace S := S.front1
    replace S := S.front2
    replace S := S.front1
    replace S := S.reM (L' := (Sl.encS (addsL [] (p ++ [k_26])))) (congrArg Sl.encS (show addS (addsL [] p) k_26 = (addsL [] (p ++ [k_26])) by (first | rfl | (simp [addsL_snoc]; done) | (simp [addsL_snoc, List.filter_append, *]; done))))
    replace S := S.front1
    replace S := S.reIt (p' := (Sl.encS (p ++ [k_26]))) (congrArg Sl.encS (show p ++ [k_26] = (p ++ [k_26]) by (first | rfl | (simp [addsL_snoc]; done) | (simp [addsL_snoc, List.filter_append, *]; done))))
    exact ⟨(p ++ [k_26]), ⟨M_28, (hM_11.trans hM_28), S, E.keep ⟨rfl, rfl, rfl, trivial⟩, (by exact snocN (by assumption) (by assumption)), (by exact snocS (by assumption) (by assumption)), (by simp; omega)⟩, (by simp; omega)⟩

set_option maxRecDepth 100000 in
set_option maxHeartbeats 4000000 in
theorem U_ToSlice {M : Hp} {m0 : Value} {q0 c0 : List Int} (hm0 : RdM M m0 (Sl.encS q0)) (hn0 : q0.Nodup) (hq0 : ∀ x, x ∈ q0 ↔ x ∈ c0) (b0 : c0.length ≤ 1000000000)  :
    Sp Tryz.prog (.func (.func 213) #[] #[]) M [m0] [] (fun r M' C' => ∃ l, C' = [OwnI 3 r l] ∧ l.Nodup ∧ ∀ x, x ∈ l ↔ x ∈ c0) := by
  refine Sp_enter Tryz.func213 rfl Tryz.ntmps213 rfl Tryz.call213 ?_
  intro a w M1 H hM1 S E
  replace hm0 := hm0.le hM1
  have hql0 : q0.length ≤ c0.length := nodup_len hn0 fun z hz => (hq0 z).1 hz
  have hcl0 := card_le c0
  refine WP_seq ?_
  refine WP_region ?_
  refine S_x (X_box (cs := #[m0]) E S rfl rfl (cells_one (RdM.one' hm0)) ?_)
  clear E a S; rintro a w b_1 E S
  obtain ⟨M_2, hM_2, hb_1, S⟩ := S.freezeB
  replace hm0 := hm0.le hM_2
  refine S_v E rfl (R_assign E rfl) rfl ?_
  clear E a; intro a E
  refine WL_nil ?_
  refine T_n ?_
  refine WP_seq ?_
  refine WP_region ?_
  refine S_x (X_pu E S rfl rfl rfl (U_Cardinality (⟨_, _, _, rfl, hb_1, hm0, hn0, hq0⟩ : RdSU 145 M_2 (.pointer (some ⟨b_1, 0, none⟩)) c0) (by first | assumption | omega)) (Hp.le.refl _) ?_)
  clear E a S; rintro a _ w M_3 hM_3 rfl S E
  replace hm0 := hm0.le hM_3
  replace hb_1 := hM_3.2 _ _ hb_1
  refine S_x (X_make0 (k := card c0) E S rfl rfl rfl T22 rfl (by omega) (by omega) (by omega) ?_)
  clear E a S; rintro a w v_4 E S
  replace S := S.made0
  refine S_v E rfl (R_assign E rfl) rfl ?_
  clear E a; intro a E
  refine WL_nil ?_
  refine T_n ?_
  refine WP_seq ?_
  refine WP_seq ?_
  refine WP_region ?_
  refine S_v E rfl (R_loadM E rfl Tryz.isAgg145 S.imm (cellM_box hb_1)) rfl ?_
  clear E a; intro a E
  refine S_x (X_range E S rfl MT145 hm0 rfl ?_)
  clear E a S; rintro a w i_5 es_6 ck_7 E hf_8 S
  replace S : St w M_3 (ItO m0 es_6 ck_7 i_5 (Sl.encS ([] : List Int)) :: _) := S
  refine WL_nil ?_
  refine T_n ?_
  refine WP_block ?_
  replace S := S.front1
  replace S := S.front1
  replace S := S.front1
  replace S := S.re1 (l' := []) (by (first | rfl | (simp [addsL_snoc]; done) | (simp [addsL_snoc, List.filter_append, *]; done)))
  replace S := S.front1
  replace S := S.reIt (p' := (Sl.encS [])) (congrArg Sl.encS (show ([] : List Int) = [] by (first | rfl | (simp [addsL_snoc]; done) | (simp [addsL_snoc, List.filter_append, *]; done))))
  refine WP_loop (γ := List Int) (fun (p : List Int) a w => ∃ (M_9 : Hp) (u3 : Value), Hp.le M_3 M_9 ∧ St w M_9 (ItO m0 es_6 ck_7 i_5 (Sl.encS p) :: OwnI 3 u3 p :: H) ∧ Env a 18 [] [(3, u3), (8, .pointer (some ⟨i_5, 0, none⟩))] ∧ (p.Nodup) ∧ (∀ z ∈ p, z ∈ q0) ∧ (p.length ≤ q0.length)) (fun p => q0.length - p.length) [] ⟨M_3, _, Hp.le.refl _, S, E.keep ⟨rfl, rfl, trivial⟩, (by simp), (by simp), (by simp)⟩ ?_
  try clear E
  try clear S
  try clear a
  try clear w
  rintro p a w ⟨M_9, u3, hM_9, S, E, hL0_0, hL0_1, hL0_2⟩
  replace hm0 := hm0.le hM_9
  replace hb_1 := hM_9.2 _ _ hb_1
  replace hf_8 := hf_8.le hM_9
  refine WP_seq ?_
  refine WP_region ?_
  refine S_x (X_nextS E S rfl hf_8 rfl (by assumption) (by assumption) ?_ ?_)
  · clear E a S; rintro a E hpm_10 S
    refine S_v E rfl (R_extract E rfl rfl) rfl ?_
    clear E a; intro a E
    refine WL_nil ?_
    refine T_n ?_
    refine WP_seq ?_
    refine WP_condF E rfl rfl ?_
    refine WP_exit ?_
    refine T_x ?_
    refine T_x ?_
    refine B_x ?_
    refine T_n ?_
    refine WP_seq ?_
    refine WP_region ?_
    refine S_v E rfl (R_move E rfl) rfl ?_
    clear E a; intro a E
    refine S_v E rfl (R_assign E rfl) rfl ?_
    clear E a; intro a E
    refine WL_nil ?_
    refine T_n ?_
    refine WP_ret ?_
    replace S := S.drop
    exact F_ret1 E Tryz.results213 rfl ⟨_, rfl, M_9, _, (hM_2.trans (hM_3.trans hM_9)), ⟨_, rfl, (by assumption), (by (intro x; exact (List.Perm.mem_iff (by first | assumption | (exact List.Perm.symm (by assumption)))).trans (hq0 x)))⟩, S⟩
  · clear E a S w; rintro a w k_11 E hk_12 hk_12n hk_12l S
    refine S_v E rfl (R_extract E rfl rfl) rfl ?_
    clear E a; intro a E
    refine WL_nil ?_
    refine T_n ?_
    refine WP_seq ?_
    refine WP_condT E rfl rfl ?_
    refine WP_skip ?_
    refine T_n ?_
    refine WP_block ?_
    refine WP_seq ?_
    refine WP_region ?_
    refine S_v E rfl (R_entry (k := k_11) (v := .agg #[]) E (by have S1 := S; simp only [Sl.encS, List.map_append, List.map_cons, List.map_nil] at S1; exact S1) hf_8 rfl) rfl ?_
    clear E a; intro a E
    refine S_v E rfl (R_extract E rfl rfl) rfl ?_
    clear E a; intro a E
    refine S_v E rfl (R_assign E rfl) rfl ?_
    clear E a; intro a E
    refine WL_nil ?_
    refine T_n ?_
    refine WP_region ?_
    refine S_v E rfl (R_move E rfl) rfl ?_
    clear E a; intro a E
    refine S_v E rfl (R_move E rfl) rfl ?_
    clear E a; intro a E
    refine S_x (X_buildI (ys := [k_11]) E S rfl T22 rfl rfl rfl ?_)
    clear E a S; rintro a w v_13 E S
    replace S := S.front2
    replace S := S.front1
    refine S_x (X_appendB (xs := p) (ys := [k_11]) E S rfl rfl rfl T22 (by (simp; omega)) ?_)
    clear E a S; rintro a w v_14 E S
    refine S_v E rfl (R_assign E rfl) rfl ?_
    clear E a; intro a E
    refine WL_nil ?_
    refine B_n ?_
    refine T_n ?_
    replace S := S.front1
    replace S := S.front1
    replace S := S.re1 (l' := (p ++ [k_11])) (by (first | rfl | (simp [addsL_snoc]; done) | (simp [addsL_snoc, List.filter_append, *]; done)))
    replace S := S.front1
    replace S := S.reIt (p' := (Sl.encS (p ++ [k_11]))) (congrArg Sl.encS (show p ++ [k_11] = (p ++ [k_11]) by (first | rfl | (simp [addsL_snoc]; done) | (simp [addsL_snoc, List.filter_append, *]; done))))
    exact ⟨(p ++ [k_11]), ⟨M_9, _, hM_9, S, E.keep ⟨rfl, rfl, trivial⟩, (by exact snocN (by assumption) (by assumption)), (by exact snocS (by assumption) (by assumption)), (by simp; omega)⟩, (by simp; omega)⟩

set_option maxRecDepth 100000 in
set_option maxHeartbeats 4000000 in
def Tryz.lsort_ren : Go.Shelf.Ren := ⟨fun | 5 => 57 | 8 => 82 | 7 => 81 | 19 => 104 | 20 => 105 | 10 => 95 | 11 => 96 | 12 => 97 | 13 => 98 | 14 => 99 | 15 => 100 | 16 => 101 | 17 => 102 | 18 => 103 | 30 => 112 | 31 => 113 | 32 => 114 | 33 => 115 | 34 => 116 | 35 => 117 | 40 => 131 | n => n, fun | 23 => 22 | 25 => 3 | 3 => 3 | 32 => 113 | 22 => 22 | 0 => 0 | 44 => 130 | 46 => 132 | 4 => 4 | 36 => 123 | 35 => 122 | 41 => 93 | 5 => 5 | 9 => 9 | 53 => 148 | 57 => 152 | 63 => 162 | 64 => 163 | n => n, fun | n => n⟩
set_option maxRecDepth 100000 in
set_option maxHeartbeats 4000000 in
theorem Tryz.lsort : Go.Proofs.SlLaysM.n5 Tryz.prog Tryz.lsort_ren := {
  mixed := by kernel_rfl,
  f5 := ⟨Tryz.f57.name, by decide, Tryz.func57.trans (congrArg some (by kernel_rfl))⟩,
  f7 := ⟨Tryz.f81.name, by decide, Tryz.func81.trans (congrArg some (by kernel_rfl))⟩,
  f8 := Tryz.func82.trans (congrArg some (by kernel_rfl)),
  f10 := ⟨Tryz.f95.name, by decide, Tryz.func95.trans (congrArg some (by kernel_rfl))⟩,
  f11 := ⟨Tryz.f96.name, by decide, Tryz.func96.trans (congrArg some (by kernel_rfl))⟩,
  f12 := ⟨Tryz.f97.name, by decide, Tryz.func97.trans (congrArg some (by kernel_rfl))⟩,
  f13 := ⟨Tryz.f98.name, by decide, Tryz.func98.trans (congrArg some (by kernel_rfl))⟩,
  f14 := ⟨Tryz.f99.name, by decide, Tryz.func99.trans (congrArg some (by kernel_rfl))⟩,
  f15 := ⟨Tryz.f100.name, by decide, Tryz.func100.trans (congrArg some (by kernel_rfl))⟩,
  f16 := ⟨Tryz.f101.name, by decide, Tryz.func101.trans (congrArg some (by kernel_rfl))⟩,
  f17 := ⟨Tryz.f102.name, by decide, Tryz.func102.trans (congrArg some (by kernel_rfl))⟩,
  f18 := ⟨Tryz.f103.name, by decide, Tryz.func103.trans (congrArg some (by kernel_rfl))⟩,
  f19 := Tryz.func104.trans (congrArg some (by kernel_rfl)),
  f20 := Tryz.func105.trans (congrArg some (by kernel_rfl)),
  f30 := ⟨Tryz.f112.name, by decide, Tryz.func112.trans (congrArg some (by kernel_rfl))⟩,
  f31 := Tryz.func113.trans (congrArg some (by kernel_rfl)),
  f32 := Tryz.func114.trans (congrArg some (by kernel_rfl)),
  f33 := ⟨Tryz.f115.name, by decide, Tryz.func115.trans (congrArg some (by kernel_rfl))⟩,
  f34 := ⟨Tryz.f116.name, by decide, Tryz.func116.trans (congrArg some (by kernel_rfl))⟩,
  f35 := ⟨Tryz.f117.name, by decide, Tryz.func117.trans (congrArg some (by kernel_rfl))⟩,
  f40 := ⟨Tryz.f131.name, by decide, Tryz.func131.trans (congrArg some (by kernel_rfl))⟩,
  t0 := Tryz.underlying0,
  a0 := Tryz.isAgg0,
  z0 := Tryz.sizeOf0,
  v0 := Tryz.zeroValue0,
  t3 := Tryz.underlying3,
  a3 := Tryz.isAgg3,
  z3 := Tryz.sizeOf3,
  v3 := Tryz.zeroValue3,
  t4 := Tryz.underlying4,
  a4 := Tryz.isAgg4,
  z4 := Tryz.sizeOf4,
  v4 := Tryz.zeroValue4,
  t5 := Tryz.underlying5,
  a5 := Tryz.isAgg5,
  z5 := Tryz.sizeOf5,
  v5 := Tryz.zeroValue5,
  t9 := Tryz.underlying9,
  a9 := Tryz.isAgg9,
  z9 := Tryz.sizeOf9,
  v9 := Tryz.zeroValue9,
  t22 := Tryz.underlying22,
  a22 := Tryz.isAgg22,
  z22 := Tryz.sizeOf22,
  v22 := Tryz.zeroValue22,
  t23 := Tryz.underlying22,
  a23 := Tryz.isAgg22,
  z23 := Tryz.sizeOf22,
  v23 := Tryz.zeroValue22,
  t25 := Tryz.underlying3,
  a25 := Tryz.isAgg3,
  z25 := Tryz.sizeOf3,
  v25 := Tryz.zeroValue3,
  t32 := Tryz.underlying113,
  a32 := Tryz.isAgg113,
  z32 := Tryz.sizeOf113,
  v32 := Tryz.zeroValue113,
  t35 := Tryz.underlying122,
  a35 := Tryz.isAgg122,
  z35 := Tryz.sizeOf122,
  v35 := Tryz.zeroValue122,
  t36 := Tryz.underlying123,
  a36 := Tryz.isAgg123,
  z36 := Tryz.sizeOf123,
  v36 := Tryz.zeroValue123,
  t41 := Tryz.underlying93,
  a41 := Tryz.isAgg93,
  z41 := Tryz.sizeOf93,
  v41 := Tryz.zeroValue93,
  t44 := Tryz.underlying130,
  a44 := Tryz.isAgg130,
  z44 := Tryz.sizeOf130,
  v44 := Tryz.zeroValue130,
  t46 := Tryz.underlying132,
  a46 := Tryz.isAgg132,
  z46 := Tryz.sizeOf132,
  v46 := Tryz.zeroValue132,
  t53 := Tryz.underlying148,
  a53 := Tryz.isAgg148,
  z53 := Tryz.sizeOf148,
  v53 := Tryz.zeroValue148,
  t57 := Tryz.underlying152,
  a57 := Tryz.isAgg152,
  z57 := Tryz.sizeOf152,
  v57 := Tryz.zeroValue152,
  t63 := Tryz.underlying162,
  a63 := Tryz.isAgg162,
  z63 := Tryz.sizeOf162,
  v63 := Tryz.zeroValue162,
  t64 := Tryz.underlying163,
  a64 := Tryz.isAgg163,
  z64 := Tryz.sizeOf163,
  v64 := Tryz.zeroValue163 }
theorem slices_Sort {M : Hp} {v0 : Value} {l0 : List Int} (b0 : l0.length ≤ 1000000000000) :
    Sp Tryz.prog (.func (.func 57) #[] #[]) M [v0] [OwnI 3 v0 l0] (fun r M' C' => C' = [OwnI 3 v0 (srtM l0)]) :=
  sort_sp Tryz.call57 (fun blk off cap zs w a b c => AnyM.slices_Sort_int Tryz.lsort blk off cap zs w a b c) (fun p cap w => AnyM.slices_Sort_int_none Tryz.lsort p cap w) b0

set_option maxRecDepth 100000 in
set_option maxHeartbeats 4000000 in
theorem U_Sorted {M : Hp} {v0 : Value} {c0 : List Int} (h0 : RdSU 145 M v0 c0) (b0 : c0.length ≤ 1000000000)  :
    Pu Tryz.prog (.func (.func 39) #[] #[]) M [.iface 116 v0] (fun r M' => RdI M' r (suL c0)) := by
  refine Pu_enter Tryz.func39 rfl Tryz.ntmps39 rfl Tryz.call39 ?_
  intro a w M1 H hM1 S E
  replace h0 := h0.le hM1
  refine WP_seq ?_
  refine WP_region ?_
  refine S_v E rfl (R_assign E rfl) rfl ?_
  clear E a; intro a E
  refine WL_nil ?_
  refine T_n ?_
  refine WP_seq ?_
  refine WP_region ?_
  refine S_v E rfl (R_move E rfl) rfl ?_
  clear E a; intro a E
  have hset := h0
  obtain ⟨sb0, sm0, sq0, se0, shb0, shm0, shn0, shq0⟩ := hset
  have shq0l : sq0.length ≤ c0.length := nodup_len shn0 fun z hz => (shq0 z).1 hz
  refine S_x (X_spI (p := []) E S rfl rfl rfl (meth_116_ToSlice se0 (cellM_world S.imm (cellM_box shb0))) Tryz.call213 (U_ToSlice shm0 shn0 shq0 (by first | assumption | omega)) (Hp.le.refl _) ?_)
  clear E a S; rintro a v_2 w M_1 _ hM_1 ⟨l_3, rfl, hl_3n, hl_3m⟩ S E
  have hl_3l : l_3.length ≤ c0.length := nodup_len hl_3n fun z hz => (hl_3m z).1 hz
  replace S : St w M_1 (OwnI 3 v_2 l_3 :: H) := S
  replace h0 := h0.le hM_1
  replace shb0 := hM_1.2 _ _ shb0
  replace shm0 := shm0.le hM_1
  refine S_v E rfl (R_assign E rfl) rfl ?_
  clear E a; intro a E
  refine WL_nil ?_
  refine T_n ?_
  refine WP_seq ?_
  refine WP_region ?_
  refine S_v E rfl (R_move E rfl) rfl ?_
  clear E a; intro a E
  refine S_x (X_sp (p := [OwnI 3 v_2 l_3]) E S rfl rfl rfl (slices_Sort (by (first | omega | (simp; omega) | (simp; done) | (simp_all; omega) | grind))) (Hp.le.refl _) ?_)
  clear E a S; rintro a v_5 w M_4 _ hM_4 rfl S E
  replace S : St w M_4 (OwnI 3 v_2 (srtM l_3) :: _) := S
  replace h0 := h0.le hM_4
  replace shb0 := hM_4.2 _ _ shb0
  replace shm0 := shm0.le hM_4
  refine WL_nil ?_
  refine T_n ?_
  refine WP_seq ?_
  refine WP_region ?_
  refine S_v E rfl (R_move E rfl) rfl ?_
  clear E a; intro a E
  refine S_v E rfl (R_assign E rfl) rfl ?_
  clear E a; intro a E
  refine WL_nil ?_
  refine T_n ?_
  refine WP_ret ?_
  have S0 := S; clear S
  obtain ⟨M_6, hM_6, hz_7, S⟩ := S0.freezeI (by (first | omega | (rw [srtM_len]; omega)))
  clear S0
  replace h0 := h0.le hM_6
  replace shb0 := hM_6.2 _ _ shb0
  replace shm0 := shm0.le hM_6
  exact F_ret1 E Tryz.results39 rfl ⟨_, rfl, M_6, (hM_1.trans (hM_4.trans hM_6)), (by rw [show (suL c0) = (srtM l_3) from by (first | exact suL_of (by assumption) (by assumption) | exact (suL_of (by assumption) (by assumption)).symm)]; exact hz_7), S⟩

set_option maxRecDepth 100000 in
set_option maxHeartbeats 4000000 in
theorem U_SetUnion {M : Hp} {v1 v2 : Value} {l1 l2 : List Int} (h1 : RdI M v1 l1) (h2 : RdI M v2 l2)(hb1 : l1.length ≤ 100000000) (hb2 : l2.length ≤ 100000000)  :
    Pu Tryz.prog (.func (.func 10) #[] #[]) M [.bool false, v1, v2] (fun r M' => RdI M' r (suL (l1 ++ l2))) := by
  refine Pu_enter Tryz.func10 rfl Tryz.ntmps10 rfl Tryz.call10 ?_
  intro a w M1 H hM1 S E
  replace h1 := h1.le hM1
  replace h2 := h2.le hM1
  have b1 := h1.bound
  have b2 := h2.bound
  refine WP_seq ?_
  refine WP_region ?_
  refine S_v E rfl (R_assign E rfl) rfl ?_
  clear E a; intro a E
  refine WL_nil ?_
  refine T_n ?_
  refine WP_seq ?_
  refine WP_region ?_
  refine S_v E rfl (R_move E rfl) rfl ?_
  clear E a; intro a E
  refine S_v E rfl (R_move E rfl) rfl ?_
  clear E a; intro a E
  refine S_v E rfl (R_move E rfl) rfl ?_
  clear E a; intro a E
  refine S_x (X_pu E S rfl rfl rfl (U_twoSets h1 h2 (by first | assumption | omega) (by first | assumption | omega)) (Hp.le.refl _) ?_)
  clear E a S; rintro a _ w M_1 hM_1 ⟨_, _, rfl, ⟨v_2, rfl, hv_2⟩, ⟨v_3, rfl, hv_3⟩⟩ S E
  replace h1 := h1.le hM_1
  replace h2 := h2.le hM_1
  refine S_v E rfl (R_move E rfl) rfl ?_
  clear E a; intro a E
  refine S_v E rfl (R_extract E rfl rfl) rfl ?_
  clear E a; intro a E
  refine S_v E rfl (R_extract E rfl rfl) rfl ?_
  clear E a; intro a E
  refine S_v E rfl (R_assign E rfl) rfl ?_
  clear E a; intro a E
  refine S_v E rfl (R_assign E rfl) rfl ?_
  clear E a; intro a E
  refine WL_nil ?_
  refine T_n ?_
  refine WP_seq ?_
  refine WP_region ?_
  refine S_v E rfl (R_move E rfl) rfl ?_
  clear E a; intro a E
  refine S_v E rfl (R_move E rfl) rfl ?_
  clear E a; intro a E
  have hset := hv_2
  obtain ⟨b_4, m_5, q_6, e_7, hb_8, hm_9, hn_10, hq_11⟩ := hset
  have hq_11l : q_6.length ≤ l1.length := nodup_len hn_10 fun z hz => (hq_11 z).1 hz
  refine S_x (X_puI E S rfl rfl rfl (meth_116_Union e_7 (cellM_world S.imm (cellM_box hb_8))) Tryz.call202 (U_Union hm_9 hn_10 hq_11 hv_3 (by first | assumption | omega) (by first | assumption | omega)) (Hp.le.refl _) ?_)
  clear E a S; rintro a _ w M_12 hM_12 ⟨v_13, rfl, hv_13⟩ S E
  replace h1 := h1.le hM_12
  replace h2 := h2.le hM_12
  replace hv_2 := hv_2.le hM_12
  replace hv_3 := hv_3.le hM_12
  replace hb_8 := hM_12.2 _ _ hb_8
  replace hm_9 := hm_9.le hM_12
  refine S_x (X_pu E S rfl rfl rfl (U_Sorted hv_13 (by first | assumption | omega | (simp only [List.length_append]; omega) | exact Nat.le_trans (List.length_filter_le _ _) (by omega) | (rw [List.length_append]; have h8 := List.length_filter_le (fun z => decide (z ∉ l2)) l1; have h9 := List.length_filter_le (fun z => decide (z ∉ l1)) l2; omega))) (Hp.le.refl _) ?_)
  clear E a S; rintro a v_15 w M_14 hM_14 hv_15 S E
  replace h1 := h1.le hM_14
  replace h2 := h2.le hM_14
  replace hv_2 := hv_2.le hM_14
  replace hv_3 := hv_3.le hM_14
  replace hb_8 := hM_14.2 _ _ hb_8
  replace hm_9 := hm_9.le hM_14
  replace hv_13 := hv_13.le hM_14
  refine S_v E rfl (R_assign E rfl) rfl ?_
  clear E a; intro a E
  refine WL_nil ?_
  refine T_n ?_
  refine WP_ret ?_
  exact F_ret1 E Tryz.results10 rfl ⟨_, rfl, M_14, (hM_1.trans (hM_12.trans hM_14)), hv_15, S⟩

set_option maxRecDepth 100000 in
set_option maxHeartbeats 4000000 in
theorem S_new {M : Hp} {n0 : Nat} (hb0 : n0 ≤ 1000000000000) :
    Sp Tryz.prog (.func (.func 83) #[] #[]) M [.int .i64 ((n0 : Nat) : Int)] [] (fun r M' C' => ∃ p b m, r = .pointer (some ⟨p, 0, none⟩) ∧ C' = [blk p (.cells #[.int .i32 0, .int .u32 0, .int .u32 0, .int .u32 0, .int .i32 0, .int .i32 0, .pointer (some ⟨b, 0, none⟩)] 144), blk b (.cells #[.map (some m)] 145), OwnS m []]) := by
  refine Sp_enter Tryz.func83 rfl Tryz.ntmps83 rfl Tryz.call83 ?_
  intro a w M1 H hM1 S E
  refine WP_seq ?_
  refine WP_region ?_
  refine S_v E rfl (R_assign E rfl) rfl ?_
  clear E a; intro a E
  refine WL_nil ?_
  refine T_n ?_
  refine WP_seq ?_
  refine WP_region ?_
  refine S_v E rfl (R_move E rfl) rfl ?_
  clear E a; intro a E
  refine S_x (X_sp (p := []) E S rfl rfl rfl (U_new (by first | assumption | omega)) (Hp.le.refl _) ?_)
  clear E a S; rintro a _ w M_1 _ hM_1 ⟨b_3, mm_4, rfl, rfl⟩ S E
  replace S : St w M_1 (blk b_3 (.cells #[.map (some mm_4)] 145) :: OwnS mm_4 ([] : List Int) :: H) := S
  refine S_v E rfl (R_build (u := .agg #[.int .i32 0, .int .u32 0, .int .u32 0, .int .u32 0, .int .i32 0, .int .i32 0, .pointer (some ⟨b_3, 0, none⟩)]) (vs := [.pointer (some ⟨b_3, 0, none⟩)]) E rfl (fun w => BLK144 _ w)) rfl ?_
  clear E a; intro a E
  refine S_x (X_box (cs := #[.int .i32 0, .int .u32 0, .int .u32 0, .int .u32 0, .int .i32 0, .int .i32 0, .pointer (some ⟨b_3, 0, none⟩)]) E S rfl rfl rfl ?_)
  clear E a S; rintro a w b_5 E S
  refine S_v E rfl (R_assign E rfl) rfl ?_
  clear E a; intro a E
  refine WL_nil ?_
  refine T_n ?_
  refine WP_ret ?_
  replace S := S.front2
  replace S := S.front2
  replace S := S.front2
  exact F_ret1 E Tryz.results83 rfl ⟨_, rfl, M_1, _, hM_1, ⟨_, _, _, rfl, rfl⟩, S⟩

set_option maxRecDepth 100000 in
set_option maxHeartbeats 4000000 in
theorem S_Add {M : Hp} {p9 b9 m9 : Nat} {l9 : List Int} {x0 : Int} :
    Sp Tryz.prog (.func (.func 84) #[] #[]) M [.pointer (some ⟨p9, 0, none⟩), .int .i64 x0] [blk p9 (.cells #[.int .i32 0, .int .u32 0, .int .u32 0, .int .u32 0, .int .i32 0, .int .i32 0, .pointer (some ⟨b9, 0, none⟩)] 144), blk b9 (.cells #[.map (some m9)] 145), OwnS m9 l9] (fun r M' C' => (∃ z, r = .bool z) ∧ C' = [blk p9 (.cells #[.int .i32 0, .int .u32 0, .int .u32 0, .int .u32 0, .int .i32 0, .int .i32 0, .pointer (some ⟨b9, 0, none⟩)] 144), blk b9 (.cells #[.map (some m9)] 145), OwnS m9 (addS l9 x0)]) := by
  refine Sp_enter Tryz.func84 rfl Tryz.ntmps84 rfl Tryz.call84 ?_
  intro a w M1 H hM1 S E
  replace S : St w M1 (blk p9 (.cells #[.int .i32 0, .int .u32 0, .int .u32 0, .int .u32 0, .int .i32 0, .int .i32 0, .pointer (some ⟨b9, 0, none⟩)] 144) :: blk b9 (.cells #[.map (some m9)] 145) :: OwnS m9 l9 :: _) := S
  refine WP_seq ?_
  refine WP_region ?_
  refine S_v E rfl (R_assign E rfl) rfl ?_
  clear E a; intro a E
  refine WL_nil ?_
  refine T_n ?_
  refine WP_seq ?_
  refine WP_region ?_
  refine S_v E rfl (R_move E rfl) rfl ?_
  clear E a; intro a E
  refine S_v E rfl (R_nilCheck E rfl rfl) rfl ?_
  clear E a; intro a E
  refine S_v E rfl (R_fieldAddr E rfl (FA144_0 _)) rfl ?_
  clear E a; intro a E
  replace S : St w M1 (LK p9 144 0 (.pointer (some ⟨b9, 0, none⟩)) :: _) := S
  refine S_x (X_sp (p := [LK p9 144 0 (.pointer (some ⟨b9, 0, none⟩))]) E S rfl rfl rfl (wlock_sp Tryz.rwWLib (T := 144)) (Hp.le.refl _) ?_)
  clear E a S; rintro a _ w M_1 _ hM_1 ⟨rfl, rfl⟩ S E
  replace S : St w M_1 (blk p9 (.cells #[.int .i32 1, .int .u32 0, .int .u32 0, .int .u32 0, .int .i32 (-1073741824), .int .i32 0, .pointer (some ⟨b9, 0, none⟩)] 144) :: blk b9 (.cells #[.map (some m9)] 145) :: OwnS m9 l9 :: H) := S
  refine WL_nil ?_
  refine T_n ?_
  refine WP_seq ?_
  refine WP_region ?_
  refine S_v E rfl (R_move E rfl) rfl ?_
  clear E a; intro a E
  refine S_v E rfl (R_nilCheck E rfl rfl) rfl ?_
  clear E a; intro a E
  refine S_v E rfl (R_fieldAddr E rfl (FA144_1 _)) rfl ?_
  clear E a; intro a E
  refine S_v E rfl (R_load E rfl (Tryz.isAgg116 _) (cell_blkf (S.mem (.head _)) rfl)) rfl ?_
  clear E a; intro a E
  refine S_v E rfl (R_nilCheck E rfl rfl) rfl ?_
  clear E a; intro a E
  refine S_v E rfl (R_load E rfl (Tryz.isAgg145 _) (cell_blk (S.mem (.tail _ (.head _))))) rfl ?_
  clear E a; intro a E
  refine S_v E rfl (R_move E rfl) rfl ?_
  clear E a; intro a E
  replace S := S.front2
  refine S_x (X_sp (p := [OwnS m9 l9]) E S rfl rfl rfl (U_Add) (Hp.le.refl _) ?_)
  clear E a S; rintro a _ w M_2 _ hM_2 ⟨⟨_, rfl⟩, rfl⟩ S E
  replace S : St w M_2 (OwnS m9 (addS l9 x0) :: blk p9 (.cells #[.int .i32 1, .int .u32 0, .int .u32 0, .int .u32 0, .int .i32 (-1073741824), .int .i32 0, .pointer (some ⟨b9, 0, none⟩)] 144) :: blk b9 (.cells #[.map (some m9)] 145) :: H) := S
  refine S_v E rfl (R_assign E rfl) rfl ?_
  clear E a; intro a E
  refine WL_nil ?_
  refine T_n ?_
  refine WP_seq ?_
  refine WP_region ?_
  refine S_v E rfl (R_move E rfl) rfl ?_
  clear E a; intro a E
  refine S_v E rfl (R_nilCheck E rfl rfl) rfl ?_
  clear E a; intro a E
  refine S_v E rfl (R_fieldAddr E rfl (FA144_0 _)) rfl ?_
  clear E a; intro a E
  replace S := S.front1
  replace S : St w M_2 (LKw p9 144 (.pointer (some ⟨b9, 0, none⟩)) :: _) := S
  refine S_x (X_sp (p := [LKw p9 144 (.pointer (some ⟨b9, 0, none⟩))]) E S rfl rfl rfl (wunlock_sp Tryz.rwWLib (T := 144)) (Hp.le.refl _) ?_)
  clear E a S; rintro a _ w M_3 _ hM_3 ⟨rfl, rfl⟩ S E
  replace S : St w M_3 (blk p9 (.cells #[.int .i32 0, .int .u32 0, .int .u32 0, .int .u32 0, .int .i32 0, .int .i32 0, .pointer (some ⟨b9, 0, none⟩)] 144) :: OwnS m9 (addS l9 x0) :: blk b9 (.cells #[.map (some m9)] 145) :: H) := S
  refine WL_nil ?_
  refine T_n ?_
  refine WP_seq ?_
  refine WP_region ?_
  refine S_v E rfl (R_move E rfl) rfl ?_
  clear E a; intro a E
  refine S_v E rfl (R_assign E rfl) rfl ?_
  clear E a; intro a E
  refine WL_nil ?_
  refine T_n ?_
  refine WP_ret ?_
  replace S := S.front1
  replace S := S.front2
  replace S := S.front2
  exact F_ret1 E Tryz.results84 rfl ⟨_, rfl, M_3, _, (hM_1.trans (hM_2.trans hM_3)), ⟨⟨_, rfl⟩, rfl⟩, S⟩

set_option maxRecDepth 100000 in
set_option maxHeartbeats 4000000 in
theorem S_NewSet {M : Hp} {v0 : Value} {l0 : List Int} (h0 : RdI M v0 l0)(hb : l0.length ≤ 1000000000) :
    Sp Tryz.prog (.func (.func 58) #[] #[]) M [v0] [] (fun r M' C' => ∃ p_0 v_0, r = .iface 114 (.pointer (some ⟨p_0, 0, none⟩)) ∧ C' = [blk p_0 (.cells #[.int .i32 0, .int .u32 0, .int .u32 0, .int .u32 0, .int .i32 0, .int .i32 0, v_0] 144)] ∧ (RdSU 145 M' v_0 l0)) := by
  refine Sp_enter Tryz.func58 rfl Tryz.ntmps58 rfl Tryz.call58 ?_
  intro a w M1 H hM1 S E
  replace h0 := h0.le hM1
  have b0 := h0.bound
  refine WP_seq ?_
  refine WP_region ?_
  refine S_v E rfl (R_assign E rfl) rfl ?_
  clear E a; intro a E
  refine WL_nil ?_
  refine T_n ?_
  refine WP_seq ?_
  refine WP_region ?_
  refine S_v E rfl (R_move E rfl) rfl ?_
  clear E a; intro a E
  refine S_v E rfl (R_lenV E rfl T22 h0.len) rfl ?_
  clear E a; intro a E
  refine S_x (X_sp (p := []) E S rfl rfl rfl (S_new (by first | assumption | omega)) (Hp.le.refl _) ?_)
  clear E a S; rintro a _ w M_1 _ hM_1 ⟨p_2, b_3, mm_4, rfl, rfl⟩ S E
  replace S : St w M_1 (blk p_2 (.cells #[.int .i32 0, .int .u32 0, .int .u32 0, .int .u32 0, .int .i32 0, .int .i32 0, .pointer (some ⟨b_3, 0, none⟩)] 144) :: blk b_3 (.cells #[.map (some mm_4)] 145) :: OwnS mm_4 ([] : List Int) :: H) := S
  replace h0 := h0.le hM_1
  refine S_v E rfl (R_assign E rfl) rfl ?_
  clear E a; intro a E
  refine WL_nil ?_
  refine T_n ?_
  refine WP_seq ?_
  refine WP_seq ?_
  refine WP_region ?_
  refine S_v E rfl (R_move E rfl) rfl ?_
  clear E a; intro a E
  refine S_v E rfl (R_lenV E rfl T22 h0.len) rfl ?_
  clear E a; intro a E
  refine S_v E rfl (R_move E rfl) rfl ?_
  clear E a; intro a E
  refine WL_nil ?_
  refine T_n ?_
  refine WP_block ?_
  replace S := S.front2
  replace S := S.reM (L' := (Sl.encS (addsL [] (l0.take 0)))) (congrArg Sl.encS (show ([] : List Int) = (addsL [] (l0.take 0)) by (first | rfl | (simp [addsL]; done) | (rw [List.take_add_one]; simp [*, addsL_snoc]; done))))
  refine WP_loop (γ := Nat) (fun (k : Nat) a w => ∃ (M_5 : Hp), Hp.le M_1 M_5 ∧ St w M_5 (OwnS mm_4 (addsL [] (l0.take k)) :: blk p_2 (.cells #[.int .i32 0, .int .u32 0, .int .u32 0, .int .u32 0, .int .i32 0, .int .i32 0, .pointer (some ⟨b_3, 0, none⟩)] 144) :: blk b_3 (.cells #[.map (some mm_4)] 145) :: H) ∧ Env a 21 [] [(3, .pointer (some ⟨p_2, 0, none⟩)), (9, v0), (10, .int .i64 (((l0).length : Nat) : Int)), (11, .int .i64 ((k : Nat) : Int))] ∧ (k ≤ (l0).length)) (fun k => ((l0).length) - k) 0 ⟨M_1, Hp.le.refl _, S, E.keep ⟨rfl, rfl, rfl, rfl, trivial⟩, by ((try clear S); (try clear E); first | assumption | omega | rfl | (simp; done) | (simp_all; done) | (simp [List.take_add_one, *]; done) | grind [List.take_add_one])⟩ ?_
  try clear E
  try clear S
  try clear a
  try clear w
  rintro k a w ⟨M_5, hM_5, S, E, hL0_0⟩
  replace h0 := h0.le hM_5
  refine WP_seq ?_
  refine WP_region ?_
  refine S_v E rfl (R_lss E rfl rfl) rfl ?_
  clear E a; intro a E
  refine WL_nil ?_
  refine T_n ?_
  refine WP_seq ?_
  refine WP_cond E rfl (fun hc_6 => ?_) (fun hc_6 => ?_)
  · replace hc_6 := of_decide_eq_true hc_6
    refine WP_skip ?_
    refine T_n ?_
    refine WP_seq ?_
    refine WP_block ?_
    refine WP_seq ?_
    refine WP_region ?_
    obtain ⟨x_7, hx_7⟩ : ∃ x, (l0)[k]? = some x := ⟨_, List.getElem?_eq_getElem (by first | omega | (simp; done) | (simp; omega) | (simp_all; omega))⟩
    obtain ⟨p_8, hp_8, qp_8⟩ := h0.at hx_7
    refine S_v E rfl (R_idx E rfl rfl T22 hp_8 rfl) rfl ?_
    clear E a; intro a E
    refine S_v E rfl (R_loadM E rfl Tryz.isAgg3 S.imm qp_8) rfl ?_
    clear E a; intro a E
    refine S_v E rfl (R_assign E rfl) rfl ?_
    clear E a; intro a E
    refine WL_nil ?_
    refine T_n ?_
    refine WP_region ?_
    refine S_v E rfl (R_move E rfl) rfl ?_
    clear E a; intro a E
    refine S_v E rfl (R_move E rfl) rfl ?_
    clear E a; intro a E
    replace S := S.front2
    replace S := S.front2
    refine S_x (X_sp (p := [blk p_2 (.cells #[.int .i32 0, .int .u32 0, .int .u32 0, .int .u32 0, .int .i32 0, .int .i32 0, .pointer (some ⟨b_3, 0, none⟩)] 144), blk b_3 (.cells #[.map (some mm_4)] 145), OwnS mm_4 (addsL [] (l0.take k))]) E S rfl rfl rfl (S_Add) (Hp.le.refl _) ?_)
    clear E a S; rintro a _ w M_9 _ hM_9 ⟨⟨_, rfl⟩, rfl⟩ S E
    replace S : St w M_9 (blk p_2 (.cells #[.int .i32 0, .int .u32 0, .int .u32 0, .int .u32 0, .int .i32 0, .int .i32 0, .pointer (some ⟨b_3, 0, none⟩)] 144) :: blk b_3 (.cells #[.map (some mm_4)] 145) :: OwnS mm_4 (addS (addsL [] (l0.take k)) x_7) :: H) := S
    replace h0 := h0.le hM_9
    refine WL_nil ?_
    refine B_n ?_
    refine T_n ?_
    refine WP_region ?_
    refine S_v E rfl (R_addx (m := ((k + 1 : Nat) : Int)) E rfl rfl (by omega) (by omega)) rfl ?_
    clear E a; intro a E
    refine S_v E rfl (R_move E rfl) rfl ?_
    clear E a; intro a E
    refine WL_nil ?_
    refine T_n ?_
    replace S := S.front1
    replace S := S.front1
    replace S := S.front2
    replace S := S.reM (L' := (Sl.encS (addsL [] (l0.take (k + 1))))) (congrArg Sl.encS (show addS (addsL [] (l0.take k)) x_7 = (addsL [] (l0.take (k + 1))) by (first | rfl | (simp [addsL]; done) | (rw [List.take_add_one]; simp [*, addsL_snoc]; done))))
    exact ⟨k + 1, ⟨M_9, (hM_5.trans hM_9), S, E.keep ⟨rfl, rfl, rfl, rfl, trivial⟩, by ((try clear S); (try clear E); first | assumption | omega | rfl | (simp; done) | (simp_all; done) | (simp [List.take_add_one, *]; done) | grind [List.take_add_one])⟩, by omega⟩
  · replace hc_6 := of_decide_eq_false hc_6
    refine WP_exit ?_
    refine T_x ?_
    refine T_x ?_
    refine B_x ?_
    refine T_n ?_
    refine WP_seq ?_
    refine WP_region ?_
    refine S_v E rfl (R_move E rfl) rfl ?_
    clear E a; intro a E
    refine S_v E rfl (R_ifaceP E rfl Tryz.underlying114) rfl ?_
    clear E a; intro a E
    refine S_v E rfl (R_assign E rfl) rfl ?_
    clear E a; intro a E
    refine WL_nil ?_
    refine T_n ?_
    refine WP_ret ?_
    have S0 := S; clear S
    obtain ⟨M_10, hM_10, hm_11, S⟩ := S0.freezeM
    clear S0
    replace h0 := h0.le hM_10
    replace S := S.front1
    have S0 := S; clear S
    obtain ⟨M_12, hM_12, hb_13, S⟩ := S0.freezeB
    clear S0
    replace h0 := h0.le hM_12
    replace hm_11 := hm_11.le hM_12
    exact F_ret1 E Tryz.results58 rfl ⟨_, rfl, M_12, _, (hM_1.trans (hM_5.trans (hM_10.trans hM_12))), ⟨_, _, rfl, rfl, ⟨_, _, (addsL [] (l0.take k)), rfl, hb_13, hm_11, (by first | assumption | exact addsL_nodup _ _ List.nodup_nil | exact addsL_nodup _ _ (addsL_nodup _ _ List.nodup_nil)), (by (intro x; rw [List.take_of_length_le (by omega)]; simp [mem_addsL]))⟩⟩, S⟩

set_option maxRecDepth 100000 in
set_option maxHeartbeats 4000000 in
theorem S_setOf {M : Hp} {v1 : Value} {l1 : List Int} (h1 : RdI M v1 l1)(hb : l1.length ≤ 1000000000) :
    Sp Tryz.prog (.func (.func 41) #[] #[]) M [.bool true, v1] [] (fun r M' C' => ∃ p_0 v_0, r = .iface 114 (.pointer (some ⟨p_0, 0, none⟩)) ∧ C' = [blk p_0 (.cells #[.int .i32 0, .int .u32 0, .int .u32 0, .int .u32 0, .int .i32 0, .int .i32 0, v_0] 144)] ∧ (RdSU 145 M' v_0 l1)) := by
  refine Sp_enter Tryz.func41 rfl Tryz.ntmps41 rfl Tryz.call41 ?_
  intro a w M1 H hM1 S E
  replace h1 := h1.le hM1
  have b1 := h1.bound
  refine WP_seq ?_
  refine WP_region ?_
  refine S_v E rfl (R_assign E rfl) rfl ?_
  clear E a; intro a E
  refine WL_nil ?_
  refine T_n ?_
  refine WP_seq ?_
  refine WP_seq ?_
  refine WP_region ?_
  refine S_v E rfl (R_move E rfl) rfl ?_
  clear E a; intro a E
  refine WL_nil ?_
  refine T_n ?_
  refine WP_condT E rfl rfl ?_
  refine WP_seq ?_
  refine WP_region ?_
  refine S_v E rfl (R_move E rfl) rfl ?_
  clear E a; intro a E
  refine S_x (X_sp (p := []) E S rfl rfl rfl (S_NewSet h1 (by first | assumption | omega)) (Hp.le.refl _) ?_)
  clear E a S; rintro a _ w M_1 _ hM_1 ⟨p_3, v_4, rfl, rfl, hv_4⟩ S E
  replace S : St w M_1 (blk p_3 (.cells #[.int .i32 0, .int .u32 0, .int .u32 0, .int .u32 0, .int .i32 0, .int .i32 0, v_4] 144) :: H) := S
  replace h1 := h1.le hM_1
  refine S_v E rfl (R_assign E rfl) rfl ?_
  clear E a; intro a E
  refine WL_nil ?_
  refine T_n ?_
  refine WP_ret ?_
  refine T_r ?_
  exact F_ret1 E Tryz.results41 rfl ⟨_, rfl, M_1, _, hM_1, ⟨_, _, rfl, rfl, hv_4⟩, S⟩

set_option maxRecDepth 100000 in
set_option maxHeartbeats 4000000 in
theorem S_twoSets {M : Hp} {v1 v2 : Value} {l1 l2 : List Int} (h1 : RdI M v1 l1) (h2 : RdI M v2 l2)(hb1 : l1.length ≤ 100000000) (hb2 : l2.length ≤ 100000000)  :
    Sp Tryz.prog (.func (.func 38) #[] #[]) M [.bool true, v1, v2] [] (fun r M' C' => ∃ p_0 v_0 p_1 v_1, r = .tuple #[.iface 114 (.pointer (some ⟨p_0, 0, none⟩)), .iface 114 (.pointer (some ⟨p_1, 0, none⟩))] ∧ C' = [blk p_0 (.cells #[.int .i32 0, .int .u32 0, .int .u32 0, .int .u32 0, .int .i32 0, .int .i32 0, v_0] 144), blk p_1 (.cells #[.int .i32 0, .int .u32 0, .int .u32 0, .int .u32 0, .int .i32 0, .int .i32 0, v_1] 144)] ∧ (RdSU 145 M' v_0 l1) ∧ (RdSU 145 M' v_1 l2)) := by
  refine Sp_enter Tryz.func38 rfl Tryz.ntmps38 rfl Tryz.call38 ?_
  intro a w M1 H hM1 S E
  replace h1 := h1.le hM1
  replace h2 := h2.le hM1
  have b1 := h1.bound
  have b2 := h2.bound
  refine WP_seq ?_
  refine WP_region ?_
  refine S_v E rfl (R_assign E rfl) rfl ?_
  clear E a; intro a E
  refine S_v E rfl (R_assign E rfl) rfl ?_
  clear E a; intro a E
  refine WL_nil ?_
  refine T_n ?_
  refine WP_seq ?_
  refine WP_region ?_
  refine S_v E rfl (R_move E rfl) rfl ?_
  clear E a; intro a E
  refine S_v E rfl (R_move E rfl) rfl ?_
  clear E a; intro a E
  refine S_x (X_sp (p := []) E S rfl rfl rfl (S_setOf h1 (by first | assumption | omega)) (Hp.le.refl _) ?_)
  clear E a S; rintro a _ w M_1 _ hM_1 ⟨p_3, v_4, rfl, rfl, hv_4⟩ S E
  replace S : St w M_1 (blk p_3 (.cells #[.int .i32 0, .int .u32 0, .int .u32 0, .int .u32 0, .int .i32 0, .int .i32 0, v_4] 144) :: H) := S
  replace h1 := h1.le hM_1
  replace h2 := h2.le hM_1
  refine S_v E rfl (R_move E rfl) rfl ?_
  clear E a; intro a E
  refine S_v E rfl (R_move E rfl) rfl ?_
  clear E a; intro a E
  refine S_x (X_sp (p := []) E S rfl rfl rfl (S_setOf h2 (by first | assumption | omega)) (Hp.le.refl _) ?_)
  clear E a S; rintro a _ w M_5 _ hM_5 ⟨p_7, v_8, rfl, rfl, hv_8⟩ S E
  replace S : St w M_5 (blk p_7 (.cells #[.int .i32 0, .int .u32 0, .int .u32 0, .int .u32 0, .int .i32 0, .int .i32 0, v_8] 144) :: blk p_3 (.cells #[.int .i32 0, .int .u32 0, .int .u32 0, .int .u32 0, .int .i32 0, .int .i32 0, v_4] 144) :: H) := S
  replace h1 := h1.le hM_5
  replace h2 := h2.le hM_5
  replace hv_4 := hv_4.le hM_5
  refine S_v E rfl (R_assign E rfl) rfl ?_
  clear E a; intro a E
  refine S_v E rfl (R_assign E rfl) rfl ?_
  clear E a; intro a E
  refine WL_nil ?_
  refine T_n ?_
  refine WP_ret ?_
  replace S := S.front1
  exact F_ret2 E Tryz.results38 rfl rfl ⟨_, rfl, M_5, _, (hM_1.trans hM_5), ⟨_, _, _, _, rfl, rfl, hv_4, hv_8⟩, S⟩

set_option maxRecDepth 100000 in
set_option maxHeartbeats 4000000 in
theorem S_Union {M : Hp} {p0 : Nat} {v0 : Value} {c0 : List Int} (h0 : RdSU 145 M v0 c0) {p1 : Nat} {v1 : Value} {c1 : List Int} (h1 : RdSU 145 M v1 c1) (b0 : c0.length ≤ 1000000000) (b1 : c1.length ≤ 1000000000)  :
    Sp Tryz.prog (.func (.func 183) #[] #[]) M [.pointer (some ⟨p0, 0, none⟩), .iface 114 (.pointer (some ⟨p1, 0, none⟩))] [blk p0 (.cells #[.int .i32 0, .int .u32 0, .int .u32 0, .int .u32 0, .int .i32 0, .int .i32 0, v0] 144), blk p1 (.cells #[.int .i32 0, .int .u32 0, .int .u32 0, .int .u32 0, .int .i32 0, .int .i32 0, v1] 144)] (fun r M' C' => ∃ p_0 v_0, r = .iface 114 (.pointer (some ⟨p_0, 0, none⟩)) ∧ C' = [blk p0 (.cells #[.int .i32 0, .int .u32 0, .int .u32 0, .int .u32 0, .int .i32 0, .int .i32 0, v0] 144), blk p1 (.cells #[.int .i32 0, .int .u32 0, .int .u32 0, .int .u32 0, .int .i32 0, .int .i32 0, v1] 144), blk p_0 (.cells #[.int .i32 0, .int .u32 0, .int .u32 0, .int .u32 0, .int .i32 0, .int .i32 0, v_0] 144)] ∧ (RdSU 145 M' v_0 (c0 ++ c1))) := by
  refine Sp_enter Tryz.func183 rfl Tryz.ntmps183 rfl Tryz.call183 ?_
  intro a w M1 H hM1 S E
  replace S : St w M1 (blk p0 (.cells #[.int .i32 0, .int .u32 0, .int .u32 0, .int .u32 0, .int .i32 0, .int .i32 0, v0] 144) :: blk p1 (.cells #[.int .i32 0, .int .u32 0, .int .u32 0, .int .u32 0, .int .i32 0, .int .i32 0, v1] 144) :: _) := S
  replace h0 := h0.le hM1
  replace h1 := h1.le hM1
  have hset := h0
  obtain ⟨sb0, sm0, sq0, se0, shb0, shm0, shn0, shq0⟩ := hset
  have shq0l : sq0.length ≤ c0.length := nodup_len shn0 fun z hz => (shq0 z).1 hz
  have hset := h1
  obtain ⟨sb1, sm1, sq1, se1, shb1, shm1, shn1, shq1⟩ := hset
  have shq1l : sq1.length ≤ c1.length := nodup_len shn1 fun z hz => (shq1 z).1 hz
  refine WP_seq ?_
  refine WP_region ?_
  refine S_v E rfl (R_assign E rfl) rfl ?_
  clear E a; intro a E
  refine WL_nil ?_
  refine T_n ?_
  refine WP_seq ?_
  refine WP_region ?_
  refine S_v E rfl (R_move E rfl) rfl ?_
  clear E a; intro a E
  refine S_v E rfl (R_assert E rfl Tryz.underlying114 (by intro z hz; cases hz)) rfl ?_
  clear E a; intro a E
  refine S_v E rfl (R_assign E rfl) rfl ?_
  clear E a; intro a E
  refine WL_nil ?_
  refine T_n ?_
  refine WP_seq ?_
  refine WP_region ?_
  refine S_v E rfl (R_move E rfl) rfl ?_
  clear E a; intro a E
  refine S_v E rfl (R_nilCheck E rfl rfl) rfl ?_
  clear E a; intro a E
  refine S_v E rfl (R_fieldAddr E rfl (FA144_0 _)) rfl ?_
  clear E a; intro a E
  replace S : St w M1 (LK p0 144 0 v0 :: _) := S
  refine S_x (X_sp (p := [LK p0 144 0 v0]) E S rfl rfl rfl (rlock_sp Tryz.rwRLib (T := 144) (n := 0) (by decide) (by decide)) (Hp.le.refl _) ?_)
  clear E a S; rintro a _ w M_1 _ hM_1 ⟨rfl, rfl⟩ S E
  replace S : St w M_1 (blk p0 (.cells #[.int .i32 0, .int .u32 0, .int .u32 0, .int .u32 0, .int .i32 1, .int .i32 0, v0] 144) :: blk p1 (.cells #[.int .i32 0, .int .u32 0, .int .u32 0, .int .u32 0, .int .i32 0, .int .i32 0, v1] 144) :: H) := S
  replace h0 := h0.le hM_1
  replace h1 := h1.le hM_1
  replace shb0 := hM_1.2 _ _ shb0
  replace shm0 := shm0.le hM_1
  replace shb1 := hM_1.2 _ _ shb1
  replace shm1 := shm1.le hM_1
  refine WL_nil ?_
  refine T_n ?_
  refine WP_seq ?_
  refine WP_region ?_
  refine S_v E rfl (R_move E rfl) rfl ?_
  clear E a; intro a E
  refine S_v E rfl (R_nilCheck E rfl rfl) rfl ?_
  clear E a; intro a E
  refine S_v E rfl (R_fieldAddr E rfl (FA144_0 _)) rfl ?_
  clear E a; intro a E
  replace S := S.front1
  replace S : St w M_1 (LK p1 144 0 v1 :: _) := S
  refine S_x (X_sp (p := [LK p1 144 0 v1]) E S rfl rfl rfl (rlock_sp Tryz.rwRLib (T := 144) (n := 0) (by decide) (by decide)) (Hp.le.refl _) ?_)
  clear E a S; rintro a _ w M_2 _ hM_2 ⟨rfl, rfl⟩ S E
  replace S : St w M_2 (blk p1 (.cells #[.int .i32 0, .int .u32 0, .int .u32 0, .int .u32 0, .int .i32 1, .int .i32 0, v1] 144) :: blk p0 (.cells #[.int .i32 0, .int .u32 0, .int .u32 0, .int .u32 0, .int .i32 1, .int .i32 0, v0] 144) :: H) := S
  replace h0 := h0.le hM_2
  replace h1 := h1.le hM_2
  replace shb0 := hM_2.2 _ _ shb0
  replace shm0 := shm0.le hM_2
  replace shb1 := hM_2.2 _ _ shb1
  replace shm1 := shm1.le hM_2
  refine WL_nil ?_
  refine T_n ?_
  refine WP_seq ?_
  replace S := S.mono_heap (w' := World.drew _) rfl
  refine WP_drawn (C := fun x w => agree M_2 w ∧ (x = 3 → w.heap[p0]? = some (.cells #[.int .i32 0, .int .u32 0, .int .u32 0, .int .u32 0, .int .i32 1, .int .i32 0, v0] 144)) ∧ (x = 9 → w.heap[p1]? = some (.cells #[.int .i32 0, .int .u32 0, .int .u32 0, .int .u32 0, .int .i32 1, .int .i32 0, v1] 144))) (bf := (fun i => bif Nat.beq i 11 then [3, 9] else [])) [0, 1, 2, 3, 4, 5, 6, 7, 8, 9, 10, 12, 13] [0, 1, 2, 3, 4, 5, 6, 7, 8, 9, 10, 11, 12, 13] Tryz.mixed (by kernel_rfl) (fun x hq => ⟨S.imm, fun _ => (S.mem (.tail _ (.head _))), fun _ => (S.mem (.head _))⟩) ?_
  refine D_v E rfl rfl rfl (fun w hC => (R_move E rfl)) ?_
  clear E a; intro a E
  refine D_v E rfl rfl rfl (fun w hC => (R_nilCheck E rfl rfl)) ?_
  clear E a; intro a E
  refine D_v E rfl rfl rfl (fun w hC => (R_fieldAddr E rfl (FA144_1 _))) ?_
  clear E a; intro a E
  refine D_v E rfl rfl rfl (fun w hC => (R_load E rfl (Tryz.isAgg116 _) (cell_blkf (hC.2.1 rfl) rfl))) ?_
  clear E a; intro a E
  refine D_v E rfl rfl rfl (fun w hC => (R_nilCheck E rfl se0)) ?_
  clear E a; intro a E
  refine D_v E rfl rfl rfl (fun w hC => (R_loadM E (congrArg some se0) Tryz.isAgg145 hC.1 (cellM_box shb0))) ?_
  clear E a; intro a E
  refine D_v E rfl rfl rfl (fun w hC => (R_move E rfl)) ?_
  clear E a; intro a E
  refine D_v E rfl rfl rfl (fun w hC => (R_nilCheck E rfl rfl)) ?_
  clear E a; intro a E
  refine D_v E rfl rfl rfl (fun w hC => (R_fieldAddr E rfl (FA144_1 _))) ?_
  clear E a; intro a E
  refine D_v E rfl rfl rfl (fun w hC => (R_load E rfl (Tryz.isAgg116 _) (cell_blkf (hC.2.2 rfl) rfl))) ?_
  clear E a; intro a E
  refine D_v E rfl rfl rfl (fun w hC => (R_ifaceP E rfl Tryz.underlying116)) ?_
  clear E a; intro a E
  refine D_x rfl rfl rfl (X_pu E S rfl rfl rfl (U_Union shm0 shn0 shq0 h1 (by first | assumption | omega) (by first | assumption | omega)) (Hp.le.refl _) ?_)
  clear E a S; rintro a _ w M_3 hM_3 ⟨v_4, rfl, hv_4⟩ S E
  replace h0 := h0.le hM_3
  replace h1 := h1.le hM_3
  replace shb0 := hM_3.2 _ _ shb0
  replace shm0 := shm0.le hM_3
  replace shb1 := hM_3.2 _ _ shb1
  replace shm1 := shm1.le hM_3
  refine ⟨fun x hq hb => ⟨(agree_le hM_3 S.imm), (fun e => by subst e; exact absurd hb (by decide)), (fun e => by subst e; exact absurd hb (by decide))⟩, ?_⟩
  refine D_v E rfl rfl rfl (fun w hC => (R_assert E rfl Tryz.underlying116 (by intro z hz; cases hz))) ?_
  clear E a; intro a E
  refine D_v E rfl rfl rfl (fun w hC => (R_assign E rfl)) ?_
  clear E a; intro a E
  refine D_end (NoP_n ?_)
  refine T_n ?_
  refine WP_seq ?_
  refine WP_region ?_
  refine S_v E rfl (R_move E rfl) rfl ?_
  clear E a; intro a E
  have hset := hv_4
  obtain ⟨b_5, m_6, q_7, e_8, hb_9, hm_10, hn_11, hq_12⟩ := hset
  have hq_12l : q_7.length ≤ (c0 ++ c1).length := nodup_len hn_11 fun z hz => (hq_12 z).1 hz
  refine S_v E rfl (R_build (u := .agg #[.int .i32 0, .int .u32 0, .int .u32 0, .int .u32 0, .int .i32 0, .int .i32 0, v_4]) (vs := [v_4]) E rfl (fun w => by rw [e_8]; exact BLK144 _ w)) rfl ?_
  clear E a; intro a E
  refine S_x (X_box (cs := #[.int .i32 0, .int .u32 0, .int .u32 0, .int .u32 0, .int .i32 0, .int .i32 0, v_4]) E S rfl rfl rfl ?_)
  clear E a S; rintro a w b_13 E S
  refine S_v E rfl (R_assign E rfl) rfl ?_
  clear E a; intro a E
  refine WL_nil ?_
  refine T_n ?_
  refine WP_seq ?_
  refine WP_region ?_
  refine S_v E rfl (R_move E rfl) rfl ?_
  clear E a; intro a E
  refine S_v E rfl (R_nilCheck E rfl rfl) rfl ?_
  clear E a; intro a E
  refine S_v E rfl (R_fieldAddr E rfl (FA144_0 _)) rfl ?_
  clear E a; intro a E
  replace S := S.front2
  replace S : St w M_3 (LK p0 144 (0 + 1) v0 :: _) := S
  refine S_x (X_sp (p := [LK p0 144 (0 + 1) v0]) E S rfl rfl rfl (runlock_sp Tryz.rwRLib (T := 144) (n := 0) (by decide) (by decide)) (Hp.le.refl _) ?_)
  clear E a S; rintro a _ w M_14 _ hM_14 ⟨rfl, rfl⟩ S E
  replace S : St w M_14 (blk p0 (.cells #[.int .i32 0, .int .u32 0, .int .u32 0, .int .u32 0, .int .i32 0, .int .i32 0, v0] 144) :: blk b_13 (.cells #[.int .i32 0, .int .u32 0, .int .u32 0, .int .u32 0, .int .i32 0, .int .i32 0, v_4] 144) :: blk p1 (.cells #[.int .i32 0, .int .u32 0, .int .u32 0, .int .u32 0, .int .i32 1, .int .i32 0, v1] 144) :: H) := S
  replace h0 := h0.le hM_14
  replace h1 := h1.le hM_14
  replace shb0 := hM_14.2 _ _ shb0
  replace shm0 := shm0.le hM_14
  replace shb1 := hM_14.2 _ _ shb1
  replace shm1 := shm1.le hM_14
  replace hv_4 := hv_4.le hM_14
  replace hb_9 := hM_14.2 _ _ hb_9
  replace hm_10 := hm_10.le hM_14
  refine WL_nil ?_
  refine T_n ?_
  refine WP_seq ?_
  refine WP_region ?_
  refine S_v E rfl (R_move E rfl) rfl ?_
  clear E a; intro a E
  refine S_v E rfl (R_nilCheck E rfl rfl) rfl ?_
  clear E a; intro a E
  refine S_v E rfl (R_fieldAddr E rfl (FA144_0 _)) rfl ?_
  clear E a; intro a E
  replace S := S.front2
  replace S : St w M_14 (LK p1 144 (0 + 1) v1 :: _) := S
  refine S_x (X_sp (p := [LK p1 144 (0 + 1) v1]) E S rfl rfl rfl (runlock_sp Tryz.rwRLib (T := 144) (n := 0) (by decide) (by decide)) (Hp.le.refl _) ?_)
  clear E a S; rintro a _ w M_15 _ hM_15 ⟨rfl, rfl⟩ S E
  replace S : St w M_15 (blk p1 (.cells #[.int .i32 0, .int .u32 0, .int .u32 0, .int .u32 0, .int .i32 0, .int .i32 0, v1] 144) :: blk p0 (.cells #[.int .i32 0, .int .u32 0, .int .u32 0, .int .u32 0, .int .i32 0, .int .i32 0, v0] 144) :: blk b_13 (.cells #[.int .i32 0, .int .u32 0, .int .u32 0, .int .u32 0, .int .i32 0, .int .i32 0, v_4] 144) :: H) := S
  replace h0 := h0.le hM_15
  replace h1 := h1.le hM_15
  replace shb0 := hM_15.2 _ _ shb0
  replace shm0 := shm0.le hM_15
  replace shb1 := hM_15.2 _ _ shb1
  replace shm1 := shm1.le hM_15
  replace hv_4 := hv_4.le hM_15
  replace hb_9 := hM_15.2 _ _ hb_9
  replace hm_10 := hm_10.le hM_15
  refine WL_nil ?_
  refine T_n ?_
  refine WP_seq ?_
  refine WP_region ?_
  refine S_v E rfl (R_move E rfl) rfl ?_
  clear E a; intro a E
  refine S_v E rfl (R_ifaceP E rfl Tryz.underlying114) rfl ?_
  clear E a; intro a E
  refine S_v E rfl (R_assign E rfl) rfl ?_
  clear E a; intro a E
  refine WL_nil ?_
  refine T_n ?_
  refine WP_ret ?_
  replace S := S.front2
  replace S := S.front1
  replace S := S.front2
  exact F_ret1 E Tryz.results183 rfl ⟨_, rfl, M_15, _, (hM_1.trans (hM_2.trans (hM_3.trans (hM_14.trans hM_15)))), ⟨_, _, rfl, rfl, hv_4⟩, S⟩

set_option maxRecDepth 100000 in
set_option maxHeartbeats 4000000 in
theorem S_ToSlice {M : Hp} {p0 : Nat} {v0 : Value} {c0 : List Int} (h0 : RdSU 145 M v0 c0) (b0 : c0.length ≤ 1000000000)  :
    Sp Tryz.prog (.func (.func 182) #[] #[]) M [.pointer (some ⟨p0, 0, none⟩)] [blk p0 (.cells #[.int .i32 0, .int .u32 0, .int .u32 0, .int .u32 0, .int .i32 0, .int .i32 0, v0] 144)] (fun r M' C' => ∃ l_, C' = [blk p0 (.cells #[.int .i32 0, .int .u32 0, .int .u32 0, .int .u32 0, .int .i32 0, .int .i32 0, v0] 144), OwnI 3 r l_] ∧ (l_.Nodup) ∧ (∀ x, x ∈ l_ ↔ x ∈ c0)) := by
  refine Sp_enter Tryz.func182 rfl Tryz.ntmps182 rfl Tryz.call182 ?_
  intro a w M1 H hM1 S E
  replace S : St w M1 (blk p0 (.cells #[.int .i32 0, .int .u32 0, .int .u32 0, .int .u32 0, .int .i32 0, .int .i32 0, v0] 144) :: _) := S
  replace h0 := h0.le hM1
  have hset := h0
  obtain ⟨sb0, sm0, sq0, se0, shb0, shm0, shn0, shq0⟩ := hset
  have shq0l : sq0.length ≤ c0.length := nodup_len shn0 fun z hz => (shq0 z).1 hz
  refine WP_seq ?_
  refine WP_region ?_
  refine S_v E rfl (R_assign E rfl) rfl ?_
  clear E a; intro a E
  refine WL_nil ?_
  refine T_n ?_
  refine WP_seq ?_
  refine WP_region ?_
  refine S_v E rfl (R_move E rfl) rfl ?_
  clear E a; intro a E
  refine S_v E rfl (R_nilCheck E rfl rfl) rfl ?_
  clear E a; intro a E
  refine S_v E rfl (R_fieldAddr E rfl (FA144_0 _)) rfl ?_
  clear E a; intro a E
  replace S : St w M1 (LK p0 144 0 v0 :: _) := S
  refine S_x (X_sp (p := [LK p0 144 0 v0]) E S rfl rfl rfl (rlock_sp Tryz.rwRLib (T := 144) (n := 0) (by decide) (by decide)) (Hp.le.refl _) ?_)
  clear E a S; rintro a _ w M_1 _ hM_1 ⟨rfl, rfl⟩ S E
  replace S : St w M_1 (blk p0 (.cells #[.int .i32 0, .int .u32 0, .int .u32 0, .int .u32 0, .int .i32 1, .int .i32 0, v0] 144) :: H) := S
  replace h0 := h0.le hM_1
  replace shb0 := hM_1.2 _ _ shb0
  replace shm0 := shm0.le hM_1
  refine WL_nil ?_
  refine T_n ?_
  refine WP_seq ?_
  refine WP_region ?_
  refine S_v E rfl (R_move E rfl) rfl ?_
  clear E a; intro a E
  refine S_v E rfl (R_nilCheck E rfl rfl) rfl ?_
  clear E a; intro a E
  refine S_v E rfl (R_fieldAddr E rfl (FA144_1 _)) rfl ?_
  clear E a; intro a E
  refine S_v E rfl (R_load E rfl (Tryz.isAgg116 _) (cell_blkf (S.mem (.head _)) rfl)) rfl ?_
  clear E a; intro a E
  refine S_v E rfl (R_nilCheck E rfl se0) rfl ?_
  clear E a; intro a E
  refine S_v E rfl (R_loadM E (congrArg some se0) Tryz.isAgg145 S.imm (cellM_box shb0)) rfl ?_
  clear E a; intro a E
  refine S_v E rfl ((R_lenF S.imm shm0 E MT145 rfl).trans (by rw [encS_len])) rfl ?_
  clear E a; intro a E
  refine S_v E rfl (R_assign E rfl) rfl ?_
  clear E a; intro a E
  refine WL_nil ?_
  refine T_n ?_
  refine WP_seq ?_
  refine WP_region ?_
  refine S_v E rfl (R_move E rfl) rfl ?_
  clear E a; intro a E
  refine S_x (X_make0 (k := (sq0).length) E S rfl rfl rfl T22 rfl (by omega) (by omega) (by omega) ?_)
  clear E a S; rintro a w v_2 E S
  replace S := S.made0
  refine S_v E rfl (R_assign E rfl) rfl ?_
  clear E a; intro a E
  refine WL_nil ?_
  refine T_n ?_
  refine WP_seq ?_
  refine WP_seq ?_
  refine WP_region ?_
  refine S_v E rfl (R_move E rfl) rfl ?_
  clear E a; intro a E
  refine S_v E rfl (R_nilCheck E rfl rfl) rfl ?_
  clear E a; intro a E
  refine S_v E rfl (R_fieldAddr E rfl (FA144_1 _)) rfl ?_
  clear E a; intro a E
  refine S_v E rfl (R_load E rfl (Tryz.isAgg116 _) (cell_blkf (S.mem (.tail _ (.head _))) rfl)) rfl ?_
  clear E a; intro a E
  refine S_v E rfl (R_nilCheck E rfl se0) rfl ?_
  clear E a; intro a E
  refine S_v E rfl (R_loadM E (congrArg some se0) Tryz.isAgg145 S.imm (cellM_box shb0)) rfl ?_
  clear E a; intro a E
  refine S_x (X_range E S rfl MT145 shm0 rfl ?_)
  clear E a S; rintro a w i_3 es_4 ck_5 E hf_6 S
  replace S : St w M_1 (ItO sm0 es_4 ck_5 i_3 (Sl.encS ([] : List Int)) :: _) := S
  refine WL_nil ?_
  refine T_n ?_
  refine WP_block ?_
  replace S := S.front1
  replace S := S.front1
  replace S := S.front1
  replace S := S.re1 (l' := []) (by (first | rfl | (simp [addsL_snoc]; done) | (simp [addsL_snoc, List.filter_append, *]; done)))
  replace S := S.front1
  replace S := S.reIt (p' := (Sl.encS [])) (congrArg Sl.encS (show ([] : List Int) = [] by (first | rfl | (simp [addsL_snoc]; done) | (simp [addsL_snoc, List.filter_append, *]; done))))
  refine WP_loop (γ := List Int) (fun (p : List Int) a w => ∃ (M_7 : Hp) (u4 : Value), Hp.le M_1 M_7 ∧ St w M_7 (ItO sm0 es_4 ck_5 i_3 (Sl.encS p) :: OwnI 3 u4 p :: blk p0 (.cells #[.int .i32 0, .int .u32 0, .int .u32 0, .int .u32 0, .int .i32 1, .int .i32 0, v0] 144) :: H) ∧ Env a 39 [] [(0, .pointer (some ⟨p0, 0, none⟩)), (4, u4), (25, .pointer (some ⟨i_3, 0, none⟩))] ∧ (p.Nodup) ∧ (∀ z ∈ p, z ∈ sq0) ∧ (p.length ≤ sq0.length)) (fun p => sq0.length - p.length) [] ⟨M_1, _, Hp.le.refl _, S, E.keep ⟨rfl, rfl, rfl, trivial⟩, (by simp), (by simp), (by simp)⟩ ?_
  try clear E
  try clear S
  try clear a
  try clear w
  rintro p a w ⟨M_7, u4, hM_7, S, E, hL0_0, hL0_1, hL0_2⟩
  replace h0 := h0.le hM_7
  replace shb0 := hM_7.2 _ _ shb0
  replace shm0 := shm0.le hM_7
  replace hf_6 := hf_6.le hM_7
  refine WP_seq ?_
  refine WP_region ?_
  refine S_x (X_nextS E S rfl hf_6 rfl (by assumption) (by assumption) ?_ ?_)
  · clear E a S; rintro a E hpm_8 S
    refine S_v E rfl (R_extract E rfl rfl) rfl ?_
    clear E a; intro a E
    refine WL_nil ?_
    refine T_n ?_
    refine WP_seq ?_
    refine WP_condF E rfl rfl ?_
    refine WP_exit ?_
    refine T_x ?_
    refine T_x ?_
    refine B_x ?_
    refine T_n ?_
    refine WP_seq ?_
    refine WP_region ?_
    refine S_v E rfl (R_move E rfl) rfl ?_
    clear E a; intro a E
    refine S_v E rfl (R_nilCheck E rfl rfl) rfl ?_
    clear E a; intro a E
    refine S_v E rfl (R_fieldAddr E rfl (FA144_0 _)) rfl ?_
    clear E a; intro a E
    replace S := S.front2
    replace S : St w M_7 (LK p0 144 (0 + 1) v0 :: _) := S
    refine S_x (X_sp (p := [LK p0 144 (0 + 1) v0]) E S rfl rfl rfl (runlock_sp Tryz.rwRLib (T := 144) (n := 0) (by decide) (by decide)) (Hp.le.refl _) ?_)
    clear E a S; rintro a _ w M_9 _ hM_9 ⟨rfl, rfl⟩ S E
    replace S : St w M_9 (blk p0 (.cells #[.int .i32 0, .int .u32 0, .int .u32 0, .int .u32 0, .int .i32 0, .int .i32 0, v0] 144) :: ItO sm0 es_4 ck_5 i_3 (Sl.encS p) :: OwnI 3 u4 p :: H) := S
    replace h0 := h0.le hM_9
    replace shb0 := hM_9.2 _ _ shb0
    replace shm0 := shm0.le hM_9
    replace hf_6 := hf_6.le hM_9
    refine WL_nil ?_
    refine T_n ?_
    refine WP_seq ?_
    refine WP_region ?_
    refine S_v E rfl (R_move E rfl) rfl ?_
    clear E a; intro a E
    refine S_v E rfl (R_assign E rfl) rfl ?_
    clear E a; intro a E
    refine WL_nil ?_
    refine T_n ?_
    refine WP_ret ?_
    replace S := S.front1
    replace S := S.drop
    replace S := S.front1
    replace S := S.front1
    exact F_ret1 E Tryz.results182 rfl ⟨_, rfl, M_9, _, (hM_1.trans (hM_7.trans hM_9)), ⟨_, rfl, (by assumption), (by (intro x; exact (List.Perm.mem_iff (by first | assumption | (exact List.Perm.symm (by assumption)))).trans (shq0 x)))⟩, S⟩
  · clear E a S w; rintro a w k_10 E hk_11 hk_11n hk_11l S
    refine S_v E rfl (R_extract E rfl rfl) rfl ?_
    clear E a; intro a E
    refine WL_nil ?_
    refine T_n ?_
    refine WP_seq ?_
    refine WP_condT E rfl rfl ?_
    refine WP_skip ?_
    refine T_n ?_
    refine WP_block ?_
    refine WP_seq ?_
    refine WP_region ?_
    refine S_v E rfl (R_entry (k := k_10) (v := .agg #[]) E (by have S1 := S; simp only [Sl.encS, List.map_append, List.map_cons, List.map_nil] at S1; exact S1) hf_6 rfl) rfl ?_
    clear E a; intro a E
    refine S_v E rfl (R_extract E rfl rfl) rfl ?_
    clear E a; intro a E
    refine S_v E rfl (R_assign E rfl) rfl ?_
    clear E a; intro a E
    refine WL_nil ?_
    refine T_n ?_
    refine WP_region ?_
    refine S_v E rfl (R_move E rfl) rfl ?_
    clear E a; intro a E
    refine S_v E rfl (R_move E rfl) rfl ?_
    clear E a; intro a E
    refine S_x (X_buildI (ys := [k_10]) E S rfl T22 rfl rfl rfl ?_)
    clear E a S; rintro a w v_12 E S
    replace S := S.front2
    replace S := S.front1
    refine S_x (X_appendB (xs := p) (ys := [k_10]) E S rfl rfl rfl T22 (by (simp; omega)) ?_)
    clear E a S; rintro a w v_13 E S
    refine S_v E rfl (R_assign E rfl) rfl ?_
    clear E a; intro a E
    refine WL_nil ?_
    refine B_n ?_
    refine T_n ?_
    replace S := S.front2
    replace S := S.front1
    replace S := S.front2
    replace S := S.front1
    replace S := S.re1 (l' := (p ++ [k_10])) (by (first | rfl | (simp [addsL_snoc]; done) | (simp [addsL_snoc, List.filter_append, *]; done)))
    replace S := S.front1
    replace S := S.reIt (p' := (Sl.encS (p ++ [k_10]))) (congrArg Sl.encS (show p ++ [k_10] = (p ++ [k_10]) by (first | rfl | (simp [addsL_snoc]; done) | (simp [addsL_snoc, List.filter_append, *]; done))))
    exact ⟨(p ++ [k_10]), ⟨M_7, _, hM_7, S, E.keep ⟨rfl, rfl, rfl, trivial⟩, (by exact snocN (by assumption) (by assumption)), (by exact snocS (by assumption) (by assumption)), (by simp; omega)⟩, (by simp; omega)⟩

set_option maxRecDepth 100000 in
set_option maxHeartbeats 4000000 in
theorem S_Sorted {M : Hp} {p0 : Nat} {v0 : Value} {c0 : List Int} (h0 : RdSU 145 M v0 c0) (b0 : c0.length ≤ 1000000000)  :
    Sp Tryz.prog (.func (.func 39) #[] #[]) M [.iface 114 (.pointer (some ⟨p0, 0, none⟩))] [blk p0 (.cells #[.int .i32 0, .int .u32 0, .int .u32 0, .int .u32 0, .int .i32 0, .int .i32 0, v0] 144)] (fun r M' C' => C' = [blk p0 (.cells #[.int .i32 0, .int .u32 0, .int .u32 0, .int .u32 0, .int .i32 0, .int .i32 0, v0] 144)] ∧ (RdI M' r (suL c0))) := by
  refine Sp_enter Tryz.func39 rfl Tryz.ntmps39 rfl Tryz.call39 ?_
  intro a w M1 H hM1 S E
  replace S : St w M1 (blk p0 (.cells #[.int .i32 0, .int .u32 0, .int .u32 0, .int .u32 0, .int .i32 0, .int .i32 0, v0] 144) :: _) := S
  replace h0 := h0.le hM1
  refine WP_seq ?_
  refine WP_region ?_
  refine S_v E rfl (R_assign E rfl) rfl ?_
  clear E a; intro a E
  refine WL_nil ?_
  refine T_n ?_
  refine WP_seq ?_
  refine WP_region ?_
  refine S_v E rfl (R_move E rfl) rfl ?_
  clear E a; intro a E
  refine S_x (X_spI (p := [blk p0 (.cells #[.int .i32 0, .int .u32 0, .int .u32 0, .int .u32 0, .int .i32 0, .int .i32 0, v0] 144)]) E S rfl rfl rfl (meth_114_ToSlice _ _) Tryz.call182 (S_ToSlice h0 (by first | assumption | omega)) (Hp.le.refl _) ?_)
  clear E a S; rintro a v_2 w M_1 _ hM_1 ⟨l_3, rfl, hl_3n, hl_3m⟩ S E
  have hl_3l : l_3.length ≤ c0.length := nodup_len hl_3n fun z hz => (hl_3m z).1 hz
  replace S : St w M_1 (blk p0 (.cells #[.int .i32 0, .int .u32 0, .int .u32 0, .int .u32 0, .int .i32 0, .int .i32 0, v0] 144) :: OwnI 3 v_2 l_3 :: H) := S
  replace h0 := h0.le hM_1
  refine S_v E rfl (R_assign E rfl) rfl ?_
  clear E a; intro a E
  refine WL_nil ?_
  refine T_n ?_
  refine WP_seq ?_
  refine WP_region ?_
  refine S_v E rfl (R_move E rfl) rfl ?_
  clear E a; intro a E
  replace S := S.front1
  refine S_x (X_sp (p := [OwnI 3 v_2 l_3]) E S rfl rfl rfl (slices_Sort (by (first | omega | (simp; omega) | (simp; done) | (simp_all; omega) | grind))) (Hp.le.refl _) ?_)
  clear E a S; rintro a v_5 w M_4 _ hM_4 rfl S E
  replace S : St w M_4 (OwnI 3 v_2 (srtM l_3) :: _) := S
  replace h0 := h0.le hM_4
  refine WL_nil ?_
  refine T_n ?_
  refine WP_seq ?_
  refine WP_region ?_
  refine S_v E rfl (R_move E rfl) rfl ?_
  clear E a; intro a E
  refine S_v E rfl (R_assign E rfl) rfl ?_
  clear E a; intro a E
  refine WL_nil ?_
  refine T_n ?_
  refine WP_ret ?_
  have S0 := S; clear S
  obtain ⟨M_6, hM_6, hz_7, S⟩ := S0.freezeI (by (first | omega | (rw [srtM_len]; omega)))
  clear S0
  replace h0 := h0.le hM_6
  exact F_ret1 E Tryz.results39 rfl ⟨_, rfl, M_6, _, (hM_1.trans (hM_4.trans hM_6)), ⟨rfl, (by rw [show (suL c0) = (srtM l_3) from by (first | exact suL_of (by assumption) (by assumption) | exact (suL_of (by assumption) (by assumption)).symm)]; exact hz_7)⟩, S⟩

set_option maxRecDepth 100000 in
set_option maxHeartbeats 4000000 in
theorem S_SetUnion {M : Hp} {v1 v2 : Value} {l1 l2 : List Int} (h1 : RdI M v1 l1) (h2 : RdI M v2 l2)(hb1 : l1.length ≤ 100000000) (hb2 : l2.length ≤ 100000000)  :
    Pu Tryz.prog (.func (.func 10) #[] #[]) M [.bool true, v1, v2] (fun r M' => RdI M' r (suL (l1 ++ l2))) := by
  refine Pu_enter Tryz.func10 rfl Tryz.ntmps10 rfl Tryz.call10 ?_
  intro a w M1 H hM1 S E
  replace h1 := h1.le hM1
  replace h2 := h2.le hM1
  have b1 := h1.bound
  have b2 := h2.bound
  refine WP_seq ?_
  refine WP_region ?_
  refine S_v E rfl (R_assign E rfl) rfl ?_
  clear E a; intro a E
  refine WL_nil ?_
  refine T_n ?_
  refine WP_seq ?_
  refine WP_region ?_
  refine S_v E rfl (R_move E rfl) rfl ?_
  clear E a; intro a E
  refine S_v E rfl (R_move E rfl) rfl ?_
  clear E a; intro a E
  refine S_v E rfl (R_move E rfl) rfl ?_
  clear E a; intro a E
  refine S_x (X_sp (p := []) E S rfl rfl rfl (S_twoSets h1 h2 (by first | assumption | omega) (by first | assumption | omega)) (Hp.le.refl _) ?_)
  clear E a S; rintro a _ w M_1 _ hM_1 ⟨p_3, v_4, p_5, v_6, rfl, rfl, hv_4, hv_6⟩ S E
  replace S : St w M_1 (blk p_3 (.cells #[.int .i32 0, .int .u32 0, .int .u32 0, .int .u32 0, .int .i32 0, .int .i32 0, v_4] 144) :: blk p_5 (.cells #[.int .i32 0, .int .u32 0, .int .u32 0, .int .u32 0, .int .i32 0, .int .i32 0, v_6] 144) :: H) := S
  replace h1 := h1.le hM_1
  replace h2 := h2.le hM_1
  refine S_v E rfl (R_move E rfl) rfl ?_
  clear E a; intro a E
  refine S_v E rfl (R_extract E rfl rfl) rfl ?_
  clear E a; intro a E
  refine S_v E rfl (R_extract E rfl rfl) rfl ?_
  clear E a; intro a E
  refine S_v E rfl (R_assign E rfl) rfl ?_
  clear E a; intro a E
  refine S_v E rfl (R_assign E rfl) rfl ?_
  clear E a; intro a E
  refine WL_nil ?_
  refine T_n ?_
  refine WP_seq ?_
  refine WP_region ?_
  refine S_v E rfl (R_move E rfl) rfl ?_
  clear E a; intro a E
  refine S_v E rfl (R_move E rfl) rfl ?_
  clear E a; intro a E
  replace S := S.front1
  replace S := S.front1
  refine S_x (X_spI (p := [blk p_3 (.cells #[.int .i32 0, .int .u32 0, .int .u32 0, .int .u32 0, .int .i32 0, .int .i32 0, v_4] 144), blk p_5 (.cells #[.int .i32 0, .int .u32 0, .int .u32 0, .int .u32 0, .int .i32 0, .int .i32 0, v_6] 144)]) E S rfl rfl rfl (meth_114_Union _ _) Tryz.call183 (S_Union hv_4 hv_6 (by first | assumption | omega) (by first | assumption | omega)) (Hp.le.refl _) ?_)
  clear E a S; rintro a _ w M_7 _ hM_7 ⟨p_9, v_10, rfl, rfl, hv_10⟩ S E
  replace S : St w M_7 (blk p_3 (.cells #[.int .i32 0, .int .u32 0, .int .u32 0, .int .u32 0, .int .i32 0, .int .i32 0, v_4] 144) :: blk p_5 (.cells #[.int .i32 0, .int .u32 0, .int .u32 0, .int .u32 0, .int .i32 0, .int .i32 0, v_6] 144) :: blk p_9 (.cells #[.int .i32 0, .int .u32 0, .int .u32 0, .int .u32 0, .int .i32 0, .int .i32 0, v_10] 144) :: H) := S
  replace h1 := h1.le hM_7
  replace h2 := h2.le hM_7
  replace hv_4 := hv_4.le hM_7
  replace hv_6 := hv_6.le hM_7
  replace S := S.front2
  refine S_x (X_sp (p := [blk p_9 (.cells #[.int .i32 0, .int .u32 0, .int .u32 0, .int .u32 0, .int .i32 0, .int .i32 0, v_10] 144)]) E S rfl rfl rfl (S_Sorted hv_10 (by first | assumption | omega | (simp only [List.length_append]; omega) | exact Nat.le_trans (List.length_filter_le _ _) (by omega) | (rw [List.length_append]; have h8 := List.length_filter_le (fun z => decide (z ∉ l2)) l1; have h9 := List.length_filter_le (fun z => decide (z ∉ l1)) l2; omega))) (Hp.le.refl _) ?_)
  clear E a S; rintro a v_13 w M_11 _ hM_11 ⟨rfl, hv_13⟩ S E
  replace S : St w M_11 (blk p_9 (.cells #[.int .i32 0, .int .u32 0, .int .u32 0, .int .u32 0, .int .i32 0, .int .i32 0, v_10] 144) :: blk p_3 (.cells #[.int .i32 0, .int .u32 0, .int .u32 0, .int .u32 0, .int .i32 0, .int .i32 0, v_4] 144) :: blk p_5 (.cells #[.int .i32 0, .int .u32 0, .int .u32 0, .int .u32 0, .int .i32 0, .int .i32 0, v_6] 144) :: H) := S
  replace h1 := h1.le hM_11
  replace h2 := h2.le hM_11
  replace hv_4 := hv_4.le hM_11
  replace hv_6 := hv_6.le hM_11
  replace hv_10 := hv_10.le hM_11
  refine S_v E rfl (R_assign E rfl) rfl ?_
  clear E a; intro a E
  refine WL_nil ?_
  refine T_n ?_
  refine WP_ret ?_
  exact F_ret1 E Tryz.results10 rfl ⟨_, rfl, M_11, (hM_1.trans (hM_7.trans hM_11)), hv_13, S.drop.drop.drop⟩

set_option maxRecDepth 100000 in
set_option maxHeartbeats 4000000 in
theorem impl_SetUnion {M : Hp} {x0 : Bool} {v1 v2 : Value} {l1 l2 : List Int} (h1 : RdI M v1 l1) (h2 : RdI M v2 l2)(hb1 : l1.length ≤ 100000000) (hb2 : l2.length ≤ 100000000) :
    Pu Tryz.prog (.func (.func 10) #[] #[]) M [.bool x0, v1, v2] (fun r M' => RdI M' r (suL (l1 ++ l2))) := by
  cases x0
  · exact U_SetUnion h1 h2 hb1 hb2
  · exact S_SetUnion h1 h2 hb1 hb2

set_option maxRecDepth 100000 in
set_option maxHeartbeats 4000000 in
theorem laws_few {M : Hp} {v0 : Value} {l0 : List (List Int)} (h0 : RdII M v0 l0) :
    Pu Tryz.prog (.func (.func 11) #[] #[]) M [v0] (fun r M' => r = .bool (decide (∀ x ∈ l0, x.length ≤ 300))) := by
  refine Pu_enter Tryz.func11 rfl Tryz.ntmps11 rfl Tryz.call11 ?_
  intro a w M1 H hM1 S E
  replace h0 := h0.le hM1
  have b0 := h0.bound
  refine WP_seq ?_
  refine WP_region ?_
  refine S_v E rfl (R_assign E rfl) rfl ?_
  clear E a; intro a E
  refine WL_nil ?_
  refine T_n ?_
  refine WP_seq ?_
  refine WP_seq ?_
  refine WP_region ?_
  refine S_v E rfl (R_move E rfl) rfl ?_
  clear E a; intro a E
  refine S_v E rfl (R_lenV E rfl T36 h0.len) rfl ?_
  clear E a; intro a E
  refine S_v E rfl (R_move E rfl) rfl ?_
  clear E a; intro a E
  refine WL_nil ?_
  refine T_n ?_
  refine WP_block ?_
  refine WP_loop (γ := Nat) (fun (k : Nat) a w => ∃ (M_1 : Hp), Hp.le M1 M_1 ∧ St w M_1 (H) ∧ Env a 15 [] [(5, v0), (6, .int .i64 (((l0).length : Nat) : Int)), (7, .int .i64 ((k : Nat) : Int))] ∧ (k ≤ (l0).length) ∧ (∀ x ∈ l0.take k, x.length ≤ 300)) (fun k => ((l0).length) - k) 0 ⟨M1, Hp.le.refl _, S, E.keep ⟨rfl, rfl, rfl, trivial⟩, by ((try clear S); (try clear E); first | assumption | omega | rfl | (simp; done) | (simp_all; done) | (simp [List.take_add_one, *]; done) | grind [List.take_add_one]), by ((try clear S); (try clear E); first | assumption | omega | rfl | (simp; done) | (simp_all; done) | (simp [List.take_add_one, *]; done) | grind [List.take_add_one])⟩ ?_
  try clear E
  try clear S
  try clear a
  try clear w
  rintro k a w ⟨M_1, hM_1, S, E, hL0_0, hL0_1⟩
  replace h0 := h0.le hM_1
  refine WP_seq ?_
  refine WP_region ?_
  refine S_v E rfl (R_lss E rfl rfl) rfl ?_
  clear E a; intro a E
  refine WL_nil ?_
  refine T_n ?_
  refine WP_seq ?_
  refine WP_cond E rfl (fun hc_2 => ?_) (fun hc_2 => ?_)
  · replace hc_2 := of_decide_eq_true hc_2
    refine WP_skip ?_
    refine T_n ?_
    refine WP_seq ?_
    refine WP_block ?_
    refine WP_seq ?_
    refine WP_region ?_
    obtain ⟨x_3, hx_3⟩ : ∃ x, (l0)[k]? = some x := ⟨_, List.getElem?_eq_getElem (by first | omega | (simp; done) | (simp; omega) | (simp_all; omega))⟩
    obtain ⟨p_4, u_5, hp_4, qp_4, hu_5⟩ := h0.at hx_3
    have bu_5 := hu_5.bound
    refine S_v E rfl (R_idx E rfl rfl T36 hp_4 rfl) rfl ?_
    clear E a; intro a E
    refine S_v E rfl (R_loadM E rfl Tryz.isAgg22 S.imm qp_4) rfl ?_
    clear E a; intro a E
    refine S_v E rfl (R_assign E rfl) rfl ?_
    clear E a; intro a E
    refine WL_nil ?_
    refine T_n ?_
    refine WP_seq ?_
    refine WP_region ?_
    refine S_v E rfl (R_move E rfl) rfl ?_
    clear E a; intro a E
    refine S_v E rfl (R_lenV E rfl T22 hu_5.len) rfl ?_
    clear E a; intro a E
    refine S_v E rfl (R_gtr E rfl rfl) rfl ?_
    clear E a; intro a E
    refine WL_nil ?_
    refine T_n ?_
    refine WP_cond E rfl (fun hc_6 => ?_) (fun hc_6 => ?_)
    · replace hc_6 := of_decide_eq_true hc_6
      refine WP_seq ?_
      refine WP_region ?_
      refine S_v E rfl (R_assign E rfl) rfl ?_
      clear E a; intro a E
      refine WL_nil ?_
      refine T_n ?_
      refine WP_ret ?_
      refine B_r ?_
      refine T_r ?_
      refine T_r ?_
      refine B_r ?_
      refine T_r ?_
      exact F_ret1 E Tryz.results11 rfl ⟨_, rfl, M_1, hM_1, (bF (by ((try clear S); (try clear E); first | assumption | omega | rfl | (simp; done) | (simp_all; done) | (simp [List.take_add_one, *]; done) | grind [List.take_add_one]))), S⟩
    · replace hc_6 := of_decide_eq_false hc_6
      refine WP_skip ?_
      refine B_n ?_
      refine T_n ?_
      refine WP_region ?_
      refine S_v E rfl (R_addx (m := ((k + 1 : Nat) : Int)) E rfl rfl (by omega) (by omega)) rfl ?_
      clear E a; intro a E
      refine S_v E rfl (R_move E rfl) rfl ?_
      clear E a; intro a E
      refine WL_nil ?_
      refine T_n ?_
      exact ⟨k + 1, ⟨M_1, hM_1, S, E.keep ⟨rfl, rfl, rfl, trivial⟩, by ((try clear S); (try clear E); first | assumption | omega | rfl | (simp; done) | (simp_all; done) | (simp [List.take_add_one, *]; done) | grind [List.take_add_one]), by ((try clear S); (try clear E); first | assumption | omega | rfl | (simp; done) | (simp_all; done) | (simp [List.take_add_one, *]; done) | grind [List.take_add_one])⟩, by omega⟩
  · replace hc_2 := of_decide_eq_false hc_2
    refine WP_exit ?_
    refine T_x ?_
    refine T_x ?_
    refine B_x ?_
    refine T_n ?_
    refine WP_seq ?_
    refine WP_region ?_
    refine S_v E rfl (R_assign E rfl) rfl ?_
    clear E a; intro a E
    refine WL_nil ?_
    refine T_n ?_
    refine WP_ret ?_
    exact F_ret1 E Tryz.results11 rfl ⟨_, rfl, M_1, hM_1, (bT (by ((try clear S); (try clear E); first | assumption | omega | rfl | (simp; done) | (simp_all; done) | (simp [List.take_add_one, *]; done) | grind [List.take_add_one]))), S⟩

set_option maxRecDepth 100000 in
set_option maxHeartbeats 4000000 in
theorem laws_both {M : Hp} {v0 v1 : Value} {l0 l1 : List Int} (h0 : RdI M v0 l0) (h1 : RdI M v1 l1)(hb : l0.length + l1.length ≤ 1000000000000) :
    Pu Tryz.prog (.func (.func 30) #[] #[]) M [v0, v1] (fun r M' => RdI M' r (l0 ++ l1)) := by
  refine Pu_enter Tryz.func30 rfl Tryz.ntmps30 rfl Tryz.call30 ?_
  intro a w M1 H hM1 S E
  replace h0 := h0.le hM1
  replace h1 := h1.le hM1
  have b0 := h0.bound
  have b1 := h1.bound
  refine WP_seq ?_
  refine WP_region ?_
  refine S_v E rfl (R_assign E rfl) rfl ?_
  clear E a; intro a E
  refine WL_nil ?_
  refine T_n ?_
  refine WP_seq ?_
  refine WP_region ?_
  refine S_x (X_buildI (ys := []) E S rfl T22 rfl rfl rfl ?_)
  clear E a S; rintro a w v_1 E S
  refine S_v E rfl (R_move E rfl) rfl ?_
  clear E a; intro a E
  refine S_x (X_appendI (xs := ([] : List Int)) E S rfl rfl rfl T22 h0 (by first | omega | (simp; done) | (simp; omega) | (simp_all; omega)) ?_)
  clear E a S; rintro a w v_2 E S
  refine S_v E rfl (R_move E rfl) rfl ?_
  clear E a; intro a E
  refine S_x (X_appendI (xs := [] ++ l0) E S rfl rfl rfl T22 h1 (by first | omega | (simp; done) | (simp; omega) | (simp_all; omega)) ?_)
  clear E a S; rintro a w v_3 E S
  refine S_v E rfl (R_assign E rfl) rfl ?_
  clear E a; intro a E
  refine WL_nil ?_
  refine T_n ?_
  refine WP_ret ?_
  have S0 := S; clear S
  obtain ⟨M_4, hM_4, hz_5, S⟩ := S0.freezeI (by (first | omega | (simp; omega) | (simp; done) | (simp_all; omega) | grind))
  clear S0
  replace h0 := h0.le hM_4
  replace h1 := h1.le hM_4
  exact F_ret1 E Tryz.results30 rfl ⟨_, rfl, M_4, hM_4, (by rw [show (l0 ++ l1) = (([] ++ l0) ++ l1) from by ((try clear S); (try clear E); first | rfl | (simp; done) | (simp_all; done) | grind [List.take_add_one])]; exact hz_5), S⟩

set_option maxRecDepth 100000 in
set_option maxHeartbeats 4000000 in
theorem laws_in {M : Hp} {v0 : Value} {l0 : List Int} (h0 : RdI M v0 l0){x1 : Int} :
    Pu Tryz.prog (.func (.func 21) #[] #[]) M [v0, .int .i64 x1] (fun r M' => r = .bool (decide (x1 ∈ l0))) := by
  refine Pu_enter Tryz.func21 rfl Tryz.ntmps21 rfl Tryz.call21 ?_
  intro a w M1 H hM1 S E
  replace h0 := h0.le hM1
  have b0 := h0.bound
  refine WP_seq ?_
  refine WP_region ?_
  refine S_v E rfl (R_assign E rfl) rfl ?_
  clear E a; intro a E
  refine WL_nil ?_
  refine T_n ?_
  refine WP_seq ?_
  refine WP_seq ?_
  refine WP_region ?_
  refine S_v E rfl (R_move E rfl) rfl ?_
  clear E a; intro a E
  refine S_v E rfl (R_lenV E rfl T22 h0.len) rfl ?_
  clear E a; intro a E
  refine S_v E rfl (R_move E rfl) rfl ?_
  clear E a; intro a E
  refine WL_nil ?_
  refine T_n ?_
  refine WP_block ?_
  refine WP_loop (γ := Nat) (fun (k : Nat) a w => ∃ (M_1 : Hp), Hp.le M1 M_1 ∧ St w M_1 (H) ∧ Env a 17 [] [(1, .int .i64 x1), (7, v0), (8, .int .i64 (((l0).length : Nat) : Int)), (9, .int .i64 ((k : Nat) : Int))] ∧ (k ≤ (l0).length) ∧ (x1 ∉ l0.take k)) (fun k => ((l0).length) - k) 0 ⟨M1, Hp.le.refl _, S, E.keep ⟨rfl, rfl, rfl, rfl, trivial⟩, by ((try clear S); (try clear E); first | assumption | omega | rfl | (simp; done) | (simp_all; done) | (simp [List.take_add_one, *]; done) | grind [List.take_add_one]), by ((try clear S); (try clear E); first | assumption | omega | rfl | (simp; done) | (simp_all; done) | (simp [List.take_add_one, *]; done) | grind [List.take_add_one])⟩ ?_
  try clear E
  try clear S
  try clear a
  try clear w
  rintro k a w ⟨M_1, hM_1, S, E, hL0_0, hL0_1⟩
  replace h0 := h0.le hM_1
  refine WP_seq ?_
  refine WP_region ?_
  refine S_v E rfl (R_lss E rfl rfl) rfl ?_
  clear E a; intro a E
  refine WL_nil ?_
  refine T_n ?_
  refine WP_seq ?_
  refine WP_cond E rfl (fun hc_2 => ?_) (fun hc_2 => ?_)
  · replace hc_2 := of_decide_eq_true hc_2
    refine WP_skip ?_
    refine T_n ?_
    refine WP_seq ?_
    refine WP_block ?_
    refine WP_seq ?_
    refine WP_region ?_
    obtain ⟨x_3, hx_3⟩ : ∃ x, (l0)[k]? = some x := ⟨_, List.getElem?_eq_getElem (by first | omega | (simp; done) | (simp; omega) | (simp_all; omega))⟩
    obtain ⟨p_4, hp_4, qp_4⟩ := h0.at hx_3
    refine S_v E rfl (R_idx E rfl rfl T22 hp_4 rfl) rfl ?_
    clear E a; intro a E
    refine S_v E rfl (R_loadM E rfl Tryz.isAgg3 S.imm qp_4) rfl ?_
    clear E a; intro a E
    refine S_v E rfl (R_assign E rfl) rfl ?_
    clear E a; intro a E
    refine WL_nil ?_
    refine T_n ?_
    refine WP_seq ?_
    refine WP_region ?_
    refine S_v E rfl (R_move E rfl) rfl ?_
    clear E a; intro a E
    refine S_v E rfl (R_move E rfl) rfl ?_
    clear E a; intro a E
    refine S_v E rfl (R_eql E rfl rfl) rfl ?_
    clear E a; intro a E
    refine WL_nil ?_
    refine T_n ?_
    refine WP_cond E rfl (fun hc_5 => ?_) (fun hc_5 => ?_)
    · replace hc_5 := of_decide_eq_true hc_5
      refine WP_seq ?_
      refine WP_region ?_
      refine S_v E rfl (R_assign E rfl) rfl ?_
      clear E a; intro a E
      refine WL_nil ?_
      refine T_n ?_
      refine WP_ret ?_
      refine B_r ?_
      refine T_r ?_
      refine T_r ?_
      refine B_r ?_
      refine T_r ?_
      exact F_ret1 E Tryz.results21 rfl ⟨_, rfl, M_1, hM_1, (bT (by (refine List.mem_of_getElem? (i := k) ?_; simp_all))), S⟩
    · replace hc_5 := of_decide_eq_false hc_5
      refine WP_skip ?_
      refine B_n ?_
      refine T_n ?_
      refine WP_region ?_
      refine S_v E rfl (R_addx (m := ((k + 1 : Nat) : Int)) E rfl rfl (by omega) (by omega)) rfl ?_
      clear E a; intro a E
      refine S_v E rfl (R_move E rfl) rfl ?_
      clear E a; intro a E
      refine WL_nil ?_
      refine T_n ?_
      exact ⟨k + 1, ⟨M_1, hM_1, S, E.keep ⟨rfl, rfl, rfl, rfl, trivial⟩, by ((try clear S); (try clear E); first | assumption | omega | rfl | (simp; done) | (simp_all; done) | (simp [List.take_add_one, *]; done) | grind [List.take_add_one]), by ((try clear S); (try clear E); first | assumption | omega | rfl | (simp; done) | (simp_all; done) | (simp [List.take_add_one, *]; done) | grind [List.take_add_one])⟩, by omega⟩
  · replace hc_2 := of_decide_eq_false hc_2
    refine WP_exit ?_
    refine T_x ?_
    refine T_x ?_
    refine B_x ?_
    refine T_n ?_
    refine WP_seq ?_
    refine WP_region ?_
    refine S_v E rfl (R_assign E rfl) rfl ?_
    clear E a; intro a E
    refine WL_nil ?_
    refine T_n ?_
    refine WP_ret ?_
    exact F_ret1 E Tryz.results21 rfl ⟨_, rfl, M_1, hM_1, (bF (by (rw [List.take_of_length_le (by omega)] at hL0_1; exact hL0_1))), S⟩

set_option maxRecDepth 100000 in
set_option maxHeartbeats 4000000 in
theorem laws_sorted {M : Hp} {v0 : Value} {l0 : List Int} (h0 : RdI M v0 l0) (hb : l0.length ≤ 1000000000000) :
    Pu Tryz.prog (.func (.func 22) #[] #[]) M [v0] (fun r M' => RdI M' r (setI l0)) := by
  refine Pu_enter Tryz.func22 rfl Tryz.ntmps22 rfl Tryz.call22 ?_
  intro a w M1 H hM1 S E
  replace h0 := h0.le hM1
  have b0 := h0.bound
  refine WP_seq ?_
  refine WP_region ?_
  refine S_v E rfl (R_assign E rfl) rfl ?_
  clear E a; intro a E
  refine WL_nil ?_
  refine T_n ?_
  refine WP_seq ?_
  refine WP_region ?_
  refine S_v E rfl (R_assign E rfl) rfl ?_
  clear E a; intro a E
  refine WL_nil ?_
  refine T_n ?_
  refine WP_seq ?_
  refine WP_seq ?_
  refine WP_region ?_
  refine S_v E rfl (R_move E rfl) rfl ?_
  clear E a; intro a E
  refine S_v E rfl (R_lenV E rfl T22 h0.len) rfl ?_
  clear E a; intro a E
  refine S_v E rfl (R_move E rfl) rfl ?_
  clear E a; intro a E
  refine WL_nil ?_
  refine T_n ?_
  refine WP_block ?_
  replace S := (S.ownNil (e := 3) (sz := 1)).made0
  replace S := S.re1 (l' := setI (l0.take 0)) (by first | (simp [setI]; done) | (rw [setI_take' (by assumption), insU_same (by rw [show l0[k]? = some _ by assumption]; assumption)]; done) | (rw [setI_take' (by assumption)]; exact set_bubble hsu.1 (by rw [show l0[k]? = some _ by assumption]; assumption) hL1_1 (by omega) (by first | (left; omega) | (right; exact ⟨_, bub_left (s := setI (l0.take k)) (x := (l0[k]?.getD 0)) (i := (setI (l0.take k)).length - j) (by omega) (by omega) (by assumption), by rw [← bub_at (s := setI (l0.take k)) (x := (l0[k]?.getD 0)) (i := (setI (l0.take k)).length - j) (by omega) (by assumption)]; assumption⟩))))
  refine WP_loop (γ := Nat) (fun (k : Nat) a w => ∃ (M_2 : Hp) (u3 : Value), Hp.le M1 M_2 ∧ St w M_2 (OwnI 3 u3 (setI (l0.take k)) :: H) ∧ Env a 57 [] [(3, u3), (7, v0), (8, .int .i64 (((l0).length : Nat) : Int)), (9, .int .i64 ((k : Nat) : Int))] ∧ (k ≤ (l0).length)) (fun k => ((l0).length) - k) 0 ⟨M1, _, Hp.le.refl _, S, E.keep ⟨rfl, rfl, rfl, rfl, trivial⟩, by ((try clear S); (try clear E); first | assumption | omega | rfl | (simp; done) | (simp_all; done) | (simp [List.take_add_one, *]; done) | grind [List.take_add_one])⟩ ?_
  try clear E
  try clear S
  try clear a
  try clear w
  rintro k a w ⟨M_2, u3, hM_2, S, E, hL0_0⟩
  replace h0 := h0.le hM_2
  have hsu := setI_spec (l0.take k); have hsl := hsu.2.2; simp only [List.length_take] at hsl
  refine WP_seq ?_
  refine WP_region ?_
  refine S_v E rfl (R_lss E rfl rfl) rfl ?_
  clear E a; intro a E
  refine WL_nil ?_
  refine T_n ?_
  refine WP_seq ?_
  refine WP_cond E rfl (fun hc_3 => ?_) (fun hc_3 => ?_)
  · replace hc_3 := of_decide_eq_true hc_3
    refine WP_skip ?_
    refine T_n ?_
    refine WP_seq ?_
    refine WP_block ?_
    refine WP_seq ?_
    refine WP_region ?_
    obtain ⟨x_4, hx_4⟩ : ∃ x, (l0)[k]? = some x := ⟨_, List.getElem?_eq_getElem (by first | omega | (simp; done) | (simp; omega) | (simp_all; omega))⟩
    obtain ⟨p_5, hp_5, qp_5⟩ := h0.at hx_4
    refine S_v E rfl (R_idx E rfl rfl T22 hp_5 rfl) rfl ?_
    clear E a; intro a E
    refine S_v E rfl (R_loadM E rfl Tryz.isAgg3 S.imm qp_5) rfl ?_
    clear E a; intro a E
    refine S_v E rfl (R_assign E rfl) rfl ?_
    clear E a; intro a E
    refine WL_nil ?_
    refine T_n ?_
    refine WP_seq ?_
    refine WP_seq ?_
    refine WP_region ?_
    refine S_v E rfl (R_move E rfl) rfl ?_
    clear E a; intro a E
    refine S_v E rfl (R_move E rfl) rfl ?_
    clear E a; intro a E
    obtain ⟨ML_6, hl_7, hv_8, S1, back⟩ := S.lendI (by omega)
    refine S_x (X_pu E S1 rfl rfl rfl (laws_in hv_8) (Hp.le.refl _) ?_)
    clear E a S; rintro a _ w M_9 hM_10 rfl S E
    replace S := back _ _ hM_10 S
    clear back S1
    refine WL_nil ?_
    refine T_n ?_
    refine WP_cond E rfl (fun hc_11 => ?_) (fun hc_11 => ?_)
    · replace hc_11 := of_decide_eq_true hc_11
      refine WP_exit ?_
      refine T_x ?_
      refine B_x ?_
      refine T_n ?_
      refine WP_region ?_
      refine S_v E rfl (R_addx (m := ((k + 1 : Nat) : Int)) E rfl rfl (by omega) (by omega)) rfl ?_
      clear E a; intro a E
      refine S_v E rfl (R_move E rfl) rfl ?_
      clear E a; intro a E
      refine WL_nil ?_
      refine T_n ?_
      replace S := S.re1 (l' := setI (l0.take (k + 1))) (by first | (simp [setI]; done) | (rw [setI_take' (by assumption), insU_same (by rw [show l0[k]? = some _ by assumption]; assumption)]; done) | (rw [setI_take' (by assumption)]; exact set_bubble hsu.1 (by rw [show l0[k]? = some _ by assumption]; assumption) hL1_1 (by omega) (by first | (left; omega) | (right; exact ⟨_, bub_left (s := setI (l0.take k)) (x := (l0[k]?.getD 0)) (i := (setI (l0.take k)).length - j) (by omega) (by omega) (by assumption), by rw [← bub_at (s := setI (l0.take k)) (x := (l0[k]?.getD 0)) (i := (setI (l0.take k)).length - j) (by omega) (by assumption)]; assumption⟩))))
      exact ⟨k + 1, ⟨M_2, _, hM_2, S, E.keep ⟨rfl, rfl, rfl, rfl, trivial⟩, by ((try clear S); (try clear E); first | assumption | omega | rfl | (simp; done) | (simp_all; done) | (simp [List.take_add_one, *]; done) | grind [List.take_add_one])⟩, by omega⟩
    · replace hc_11 := of_decide_eq_false hc_11
      refine WP_skip ?_
      refine T_n ?_
      refine WP_seq ?_
      refine WP_region ?_
      refine S_v E rfl (R_move E rfl) rfl ?_
      clear E a; intro a E
      refine S_v E rfl (R_move E rfl) rfl ?_
      clear E a; intro a E
      refine S_x (X_buildI (ys := [x_4]) E S rfl T22 rfl rfl rfl ?_)
      clear E a S; rintro a w v_12 E S
      replace S := S.front1
      replace S := S.front1
      refine S_x (X_appendB (xs := setI (l0.take k)) (ys := [x_4]) E S rfl rfl rfl T22 (by first | omega | (simp; done) | (simp; omega) | (simp_all; omega)) ?_)
      clear E a S; rintro a w v_13 E S
      refine S_v E rfl (R_assign E rfl) rfl ?_
      clear E a; intro a E
      refine WL_nil ?_
      refine T_n ?_
      refine WP_seq ?_
      refine WP_region ?_
      refine S_v E rfl (R_move E rfl) rfl ?_
      clear E a; intro a E
      refine S_v E rfl (R_lenV E rfl T22 S.lenC) rfl ?_
      clear E a; intro a E
      refine S_v E rfl (R_subx (m := ((((setI (l0.take k)) ++ [x_4]).length - 1 : Nat) : Int)) E rfl rfl (by first | omega | (simp; done) | (simp; omega)) (by first | omega | (simp; done) | (simp; omega))) rfl ?_
      clear E a; intro a E
      refine S_v E rfl (R_assign E rfl) rfl ?_
      clear E a; intro a E
      refine WL_nil ?_
      refine T_n ?_
      refine WP_block ?_
      replace S := S.re1 (l' := (setI (l0.take k)).take ((setI (l0.take k)).length - 0) ++ [(l0[k]?.getD 0)] ++ (setI (l0.take k)).drop ((setI (l0.take k)).length - 0)) (by first | (rw [show l0[k]? = some _ by assumption]; simp; done) | (have e1 := bub_at (s := setI (l0.take k)) (x := (l0[k]?.getD 0)) (i := (setI (l0.take k)).length - j) (by omega) (by assumption); have e2 := bub_left (s := setI (l0.take k)) (x := (l0[k]?.getD 0)) (i := (setI (l0.take k)).length - j) (by omega) (by omega) (by assumption); rw [show (setI (l0.take k)).length - (j + 1) = (setI (l0.take k)).length - j - 1 by omega, bubble_step (by omega) (by omega) e2, e1]))
      refine WP_loop (γ := Nat) (fun (j : Nat) a w => ∃ (M_14 : Hp), Hp.le M_2 M_14 ∧ St w M_14 (OwnI 3 v_13 ((setI (l0.take k)).take ((setI (l0.take k)).length - j) ++ [(l0[k]?.getD 0)] ++ (setI (l0.take k)).drop ((setI (l0.take k)).length - j)) :: H) ∧ Env a 57 [] [(3, v_13), (6, .int .i64 (((setI (l0.take k)).length - j : Nat) : Int)), (7, v0), (8, .int .i64 (((l0).length : Nat) : Int)), (9, .int .i64 ((k : Nat) : Int))] ∧ (j ≤ (setI (l0.take k)).length) ∧ (∀ y ∈ (setI (l0.take k)).drop ((setI (l0.take k)).length - j), (l0[k]?.getD 0) < y)) (fun j => (setI (l0.take k)).length - j) 0 ⟨M_2, Hp.le.refl _, S, E.keep ⟨rfl, look_nat (i := ((setI (l0.take k)) ++ [x_4]).length - 1) rfl (by (first | (simp; done) | (simp; omega))), rfl, rfl, rfl, trivial⟩, (by omega), (by simp)⟩ ?_
      try clear E
      try clear S
      try clear a
      try clear w
      rintro j a w ⟨M_14, hM_14, S, E, hL1_0, hL1_1⟩
      replace h0 := h0.le hM_14
      refine WP_seq ?_
      refine WP_seq ?_
      replace S := S.mono_heap (w' := World.drew _) rfl
      obtain ⟨p_15, hp_15⟩ := S.ptrC (k := (setI (l0.take k)).length - j) (by first | omega | (simp; done) | (simp; omega) | (simp_all; omega))
      obtain ⟨x_16, hx_16⟩ : ∃ x, ((setI (l0.take k)).take ((setI (l0.take k)).length - j) ++ [(l0[k]?.getD 0)] ++ (setI (l0.take k)).drop ((setI (l0.take k)).length - j))[(setI (l0.take k)).length - j]? = some x := ⟨_, List.getElem?_eq_getElem (by first | omega | (simp; done) | (simp; omega) | (simp_all; omega))⟩
      obtain ⟨p_17, hp_17⟩ := S.ptrC (k := (setI (l0.take k)).length - j - 1) (by first | omega | (simp; done) | (simp; omega) | (simp_all; omega))
      obtain ⟨x_18, hx_18⟩ : ∃ x, ((setI (l0.take k)).take ((setI (l0.take k)).length - j) ++ [(l0[k]?.getD 0)] ++ (setI (l0.take k)).drop ((setI (l0.take k)).length - j))[(setI (l0.take k)).length - j - 1]? = some x := ⟨_, List.getElem?_eq_getElem (by first | omega | (simp; done) | (simp; omega) | (simp_all; omega))⟩
      refine WP_drawn (C := fun x w => agree M_14 w ∧ (x = 6 → w.cell? p_15 = some (.int .i64 x_16)) ∧ (x = 11 → w.cell? p_17 = some (.int .i64 x_18))) (bf := (fun i => [])) [0, 1, 2, 3, 4, 5, 6, 7, 8, 9, 10, 11, 12, 13] [0, 1, 2, 3, 4, 5, 6, 7, 8, 9, 10, 11, 12, 13] Tryz.mixed (by kernel_rfl) (fun x hq => ⟨S.imm, fun _ => S.cellI hp_15 hx_16, fun _ => S.cellI hp_17 hx_18⟩) ?_
      refine D_v E rfl rfl rfl (fun w hC => (R_move E rfl)) ?_
      clear E a; intro a E
      refine D_v E rfl rfl rfl (fun w hC => (R_gtr E rfl rfl)) ?_
      clear E a; intro a E
      refine D_v E rfl rfl rfl (fun w hC => (R_move E rfl)) ?_
      clear E a; intro a E
      refine split_bool (decide (0 < (((setI (l0.take k)).length - j : Nat) : Int))) (fun hc_19 => ?_) (fun hc_19 => ?_)
      · replace E := E.val (t := 24) rfl hc_19
        replace E := E.val (t := 25) rfl hc_19
        replace hc_19 := of_decide_eq_true hc_19
        refine D_vyes E rfl rfl rfl rfl rfl (fun w hC => (R_move E rfl)) ?_
        clear E a; intro a E
        refine D_vyes E rfl rfl rfl rfl rfl (fun w hC => (R_move E rfl)) ?_
        clear E a; intro a E
        refine D_vyes E rfl rfl rfl rfl rfl (fun w hC => (R_idx E rfl rfl T22 hp_15 rfl)) ?_
        clear E a; intro a E
        refine D_vyes E rfl rfl rfl rfl rfl (fun w hC => (R_load E rfl (Tryz.isAgg3 _) (hC.2.1 rfl))) ?_
        clear E a; intro a E
        refine D_vyes E rfl rfl rfl rfl rfl (fun w hC => (R_move E rfl)) ?_
        clear E a; intro a E
        refine D_vyes E rfl rfl rfl rfl rfl (fun w hC => (R_move E rfl)) ?_
        clear E a; intro a E
        refine D_vyes E rfl rfl rfl rfl rfl (fun w hC => (R_subx (m := (((setI (l0.take k)).length - j - 1 : Nat) : Int)) E rfl rfl (by first | omega | (simp; done) | (simp; omega)) (by first | omega | (simp; done) | (simp; omega)))) ?_
        clear E a; intro a E
        refine D_vyes E rfl rfl rfl rfl rfl (fun w hC => (R_idx E rfl rfl T22 hp_17 rfl)) ?_
        clear E a; intro a E
        refine D_vyes E rfl rfl rfl rfl rfl (fun w hC => (R_load E rfl (Tryz.isAgg3 _) (hC.2.2 rfl))) ?_
        clear E a; intro a E
        refine D_vyes E rfl rfl rfl rfl rfl (fun w hC => (R_lss E rfl rfl)) ?_
        clear E a; intro a E
        refine D_v E rfl rfl rfl (fun w hC => (R_pickT E rfl rfl)) ?_
        clear E a; intro a E
        refine D_end (NoP_n ?_)
        refine T_n ?_
        refine WP_cond E rfl (fun hc_20 => ?_) (fun hc_20 => ?_)
        · replace hc_20 := of_decide_eq_true hc_20
          refine WP_skip ?_
          refine T_n ?_
          refine WP_seq ?_
          refine WP_block ?_
          replace S := S.mono_heap (w' := World.drew _) rfl
          refine WP_drawn (C := fun x w => agree M_14 w ∧ (x = 9 → w.cell? p_17 = some (.int .i64 x_18)) ∧ (x = 13 → w.cell? p_15 = some (.int .i64 x_16))) (bf := (fun i => bif Nat.beq i 15 then [9, 13] else bif Nat.beq i 17 then [9, 13] else [])) [0, 1, 2, 3, 4, 5, 6, 7, 8, 9, 10, 11, 12, 13, 14, 16] [0, 1, 2, 3, 4, 5, 6, 7, 8, 9, 10, 11, 12, 13, 14, 15, 16, 17] Tryz.mixed (by kernel_rfl) (fun x hq => ⟨S.imm, fun _ => S.cellI hp_17 hx_18, fun _ => S.cellI hp_15 hx_16⟩) ?_
          refine D_v E rfl rfl rfl (fun w hC => (R_move E rfl)) ?_
          clear E a; intro a E
          refine D_v E rfl rfl rfl (fun w hC => (R_move E rfl)) ?_
          clear E a; intro a E
          refine D_v E rfl rfl rfl (fun w hC => (R_move E rfl)) ?_
          clear E a; intro a E
          refine D_v E rfl rfl rfl (fun w hC => (R_move E rfl)) ?_
          clear E a; intro a E
          refine D_v E rfl rfl rfl (fun w hC => (R_subx (m := (((setI (l0.take k)).length - j - 1 : Nat) : Int)) E rfl rfl (by omega) (by omega))) ?_
          clear E a; intro a E
          refine D_v E rfl rfl rfl (fun w hC => (R_move E rfl)) ?_
          clear E a; intro a E
          refine D_v E rfl rfl rfl (fun w hC => (R_move E rfl)) ?_
          clear E a; intro a E
          refine D_v E rfl rfl rfl (fun w hC => (R_subx (m := (((setI (l0.take k)).length - j - 1 : Nat) : Int)) E rfl rfl (by omega) (by omega))) ?_
          clear E a; intro a E
          refine D_v E rfl rfl rfl (fun w hC => (R_idx E rfl rfl T22 hp_17 rfl)) ?_
          clear E a; intro a E
          refine D_v E rfl rfl rfl (fun w hC => (R_load E rfl (Tryz.isAgg3 _) (hC.2.1 rfl))) ?_
          clear E a; intro a E
          refine D_v E rfl rfl rfl (fun w hC => (R_move E rfl)) ?_
          clear E a; intro a E
          refine D_v E rfl rfl rfl (fun w hC => (R_move E rfl)) ?_
          clear E a; intro a E
          refine D_v E rfl rfl rfl (fun w hC => (R_idx E rfl rfl T22 hp_15 rfl)) ?_
          clear E a; intro a E
          refine D_v E rfl rfl rfl (fun w hC => (R_load E rfl (Tryz.isAgg3 _) (hC.2.2 rfl))) ?_
          clear E a; intro a E
          refine D_v E rfl rfl rfl (fun w hC => (R_idx E rfl rfl T22 hp_15 rfl)) ?_
          clear E a; intro a E
          refine D_x rfl rfl rfl (X_storeI E S rfl rfl (Tryz.sizeOf3 _) hp_15 ?_)
          clear E a S; rintro a w E S
          refine ⟨fun x hq hb => ⟨(agree_le (Hp.le.refl _) S.imm), (fun e => by subst e; exact absurd hb (by decide)), (fun e => by subst e; exact absurd hb (by decide))⟩, ?_⟩
          refine D_v E rfl rfl rfl (fun w hC => (R_idx E rfl rfl T22 hp_17 rfl)) ?_
          clear E a; intro a E
          refine D_x rfl rfl rfl (X_storeI E S rfl rfl (Tryz.sizeOf3 _) hp_17 ?_)
          clear E a S; rintro a w E S
          refine ⟨fun x hq hb => ⟨(agree_le (Hp.le.refl _) S.imm), (fun e => by subst e; exact absurd hb (by decide)), (fun e => by subst e; exact absurd hb (by decide))⟩, ?_⟩
          refine D_end (NoP_n ?_)
          refine B_n ?_
          refine T_n ?_
          refine WP_region ?_
          refine S_v E rfl (R_move E rfl) rfl ?_
          clear E a; intro a E
          refine S_v E rfl (R_subx (m := (((setI (l0.take k)).length - j - 1 : Nat) : Int)) E rfl rfl (by first | omega | (simp; done) | (simp; omega)) (by first | omega | (simp; done) | (simp; omega))) rfl ?_
          clear E a; intro a E
          refine S_v E rfl (R_assign E rfl) rfl ?_
          clear E a; intro a E
          refine WL_nil ?_
          refine T_n ?_
          replace S := S.re1 (l' := (setI (l0.take k)).take ((setI (l0.take k)).length - (j + 1)) ++ [(l0[k]?.getD 0)] ++ (setI (l0.take k)).drop ((setI (l0.take k)).length - (j + 1))) (by first | (rw [show l0[k]? = some _ by assumption]; simp; done) | (have e1 := bub_at (s := setI (l0.take k)) (x := (l0[k]?.getD 0)) (i := (setI (l0.take k)).length - j) (by omega) (by assumption); have e2 := bub_left (s := setI (l0.take k)) (x := (l0[k]?.getD 0)) (i := (setI (l0.take k)).length - j) (by omega) (by omega) (by assumption); rw [show (setI (l0.take k)).length - (j + 1) = (setI (l0.take k)).length - j - 1 by omega, bubble_step (by omega) (by omega) e2, e1]))
          exact ⟨j + 1, ⟨M_14, hM_14, S, E.keep ⟨rfl, look_nat (i := (setI (l0.take k)).length - j - 1) rfl (by (omega)), rfl, rfl, rfl, trivial⟩, (by omega), (by rw [show (setI (l0.take k)).length - (j + 1) = (setI (l0.take k)).length - j - 1 by omega]; exact drop_bub hL1_1 (by omega) (by omega) (bub_left (s := setI (l0.take k)) (x := (l0[k]?.getD 0)) (i := (setI (l0.take k)).length - j) (by omega) (by omega) (by assumption)) (by rw [← bub_at (s := setI (l0.take k)) (x := (l0[k]?.getD 0)) (i := (setI (l0.take k)).length - j) (by omega) (by assumption)]; assumption))⟩, by omega⟩
        · replace hc_20 := of_decide_eq_false hc_20
          refine WP_exit ?_
          refine T_x ?_
          refine T_x ?_
          refine B_x ?_
          refine B_n ?_
          refine T_n ?_
          refine WP_region ?_
          refine S_v E rfl (R_addx (m := ((k + 1 : Nat) : Int)) E rfl rfl (by omega) (by omega)) rfl ?_
          clear E a; intro a E
          refine S_v E rfl (R_move E rfl) rfl ?_
          clear E a; intro a E
          refine WL_nil ?_
          refine T_n ?_
          replace S := S.re1 (l' := setI (l0.take (k + 1))) (by first | (simp [setI]; done) | (rw [setI_take' (by assumption), insU_same (by rw [show l0[k]? = some _ by assumption]; assumption)]; done) | (rw [setI_take' (by assumption)]; exact set_bubble hsu.1 (by rw [show l0[k]? = some _ by assumption]; assumption) hL1_1 (by omega) (by first | (left; omega) | (right; exact ⟨_, bub_left (s := setI (l0.take k)) (x := (l0[k]?.getD 0)) (i := (setI (l0.take k)).length - j) (by omega) (by omega) (by assumption), by rw [← bub_at (s := setI (l0.take k)) (x := (l0[k]?.getD 0)) (i := (setI (l0.take k)).length - j) (by omega) (by assumption)]; assumption⟩))))
          exact ⟨k + 1, ⟨M_14, _, (hM_2.trans hM_14), S, E.keep ⟨rfl, rfl, rfl, rfl, trivial⟩, by ((try clear S); (try clear E); first | assumption | omega | rfl | (simp; done) | (simp_all; done) | (simp [List.take_add_one, *]; done) | grind [List.take_add_one])⟩, by omega⟩
      · replace E := E.val (t := 24) rfl hc_19
        replace E := E.val (t := 25) rfl hc_19
        replace hc_19 := of_decide_eq_false hc_19
        refine D_no E rfl rfl rfl rfl rfl fun a E => ?_
        refine D_no E rfl rfl rfl rfl rfl fun a E => ?_
        refine D_no E rfl rfl rfl rfl rfl fun a E => ?_
        refine D_no E rfl rfl rfl rfl rfl fun a E => ?_
        refine D_no E rfl rfl rfl rfl rfl fun a E => ?_
        refine D_no E rfl rfl rfl rfl rfl fun a E => ?_
        refine D_no E rfl rfl rfl rfl rfl fun a E => ?_
        refine D_no E rfl rfl rfl rfl rfl fun a E => ?_
        refine D_no E rfl rfl rfl rfl rfl fun a E => ?_
        refine D_no E rfl rfl rfl rfl rfl fun a E => ?_
        refine D_v E rfl rfl rfl (fun w hC => (R_pickF E rfl rfl)) ?_
        clear E a; intro a E
        refine D_end (NoP_n ?_)
        refine T_n ?_
        refine WP_condF E rfl rfl ?_
        refine WP_exit ?_
        refine T_x ?_
        refine T_x ?_
        refine B_x ?_
        refine B_n ?_
        refine T_n ?_
        refine WP_region ?_
        refine S_v E rfl (R_addx (m := ((k + 1 : Nat) : Int)) E rfl rfl (by omega) (by omega)) rfl ?_
        clear E a; intro a E
        refine S_v E rfl (R_move E rfl) rfl ?_
        clear E a; intro a E
        refine WL_nil ?_
        refine T_n ?_
        replace S := S.re1 (l' := setI (l0.take (k + 1))) (by first | (simp [setI]; done) | (rw [setI_take' (by assumption), insU_same (by rw [show l0[k]? = some _ by assumption]; assumption)]; done) | (rw [setI_take' (by assumption)]; exact set_bubble hsu.1 (by rw [show l0[k]? = some _ by assumption]; assumption) hL1_1 (by omega) (by first | (left; omega) | (right; exact ⟨_, bub_left (s := setI (l0.take k)) (x := (l0[k]?.getD 0)) (i := (setI (l0.take k)).length - j) (by omega) (by omega) (by assumption), by rw [← bub_at (s := setI (l0.take k)) (x := (l0[k]?.getD 0)) (i := (setI (l0.take k)).length - j) (by omega) (by assumption)]; assumption⟩))))
        exact ⟨k + 1, ⟨M_14, _, (hM_2.trans hM_14), S, E.keep ⟨rfl, rfl, rfl, rfl, trivial⟩, by ((try clear S); (try clear E); first | assumption | omega | rfl | (simp; done) | (simp_all; done) | (simp [List.take_add_one, *]; done) | grind [List.take_add_one])⟩, by omega⟩
  · replace hc_3 := of_decide_eq_false hc_3
    refine WP_exit ?_
    refine T_x ?_
    refine T_x ?_
    refine B_x ?_
    refine T_n ?_
    refine WP_seq ?_
    refine WP_region ?_
    refine S_v E rfl (R_move E rfl) rfl ?_
    clear E a; intro a E
    refine S_v E rfl (R_assign E rfl) rfl ?_
    clear E a; intro a E
    refine WL_nil ?_
    refine T_n ?_
    refine WP_ret ?_
    have S0 := S; clear S
    obtain ⟨M_21, hM_21, hz_22, S⟩ := S0.freezeI (by (first | omega | (simp; omega) | (simp; done) | (simp_all; omega) | grind))
    clear S0
    replace h0 := h0.le hM_21
    exact F_ret1 E Tryz.results22 rfl ⟨_, rfl, M_21, (hM_2.trans hM_21), (by rw [show (setI l0) = (setI (l0.take k)) from by (rw [List.take_of_length_le (by omega)])]; exact hz_22), S⟩

set_option maxRecDepth 100000 in
set_option maxHeartbeats 4000000 in
theorem lo_Keyify {M : Hp} {v0 : Value} {l0 : List Int} (h0 : RdI M v0 l0) :
    Sp Tryz.prog (.func (.func 73) #[] #[]) M [v0] [] (fun r M' C' => ∃ b, r = .map (some b) ∧ C' = [OwnS b (keyL l0)]) := by
  refine Sp_enter Tryz.func73 rfl Tryz.ntmps73 rfl Tryz.call73 ?_
  intro a w M1 H hM1 S E
  replace h0 := h0.le hM1
  have b0 := h0.bound
  refine WP_seq ?_
  refine WP_region ?_
  refine S_v E rfl (R_assign E rfl) rfl ?_
  clear E a; intro a E
  refine WL_nil ?_
  refine T_n ?_
  refine WP_seq ?_
  refine WP_region ?_
  refine S_v E rfl (R_move E rfl) rfl ?_
  clear E a; intro a E
  refine S_v E rfl (R_lenV E rfl T22 h0.len) rfl ?_
  clear E a; intro a E
  refine S_x (X_makeMapR E S rfl MT102 rfl ?_)
  clear E a S; rintro a w b_1 E S
  replace S : St w M1 (OwnS b_1 ([] : List Int) :: _) := S
  refine S_v E rfl (R_assign E rfl) rfl ?_
  clear E a; intro a E
  refine WL_nil ?_
  refine T_n ?_
  refine WP_seq ?_
  refine WP_seq ?_
  refine WP_region ?_
  refine S_v E rfl (R_move E rfl) rfl ?_
  clear E a; intro a E
  refine S_v E rfl (R_lenV E rfl T22 h0.len) rfl ?_
  clear E a; intro a E
  refine S_v E rfl (R_move E rfl) rfl ?_
  clear E a; intro a E
  refine WL_nil ?_
  refine T_n ?_
  refine WP_block ?_
  replace S := S.reM (L' := (Sl.encS (keyL (l0.take 0)))) (congrArg Sl.encS (show ([] : List Int) = keyL (l0.take 0) by first | (simp [keyL]; done) | exact (keyL_succ (by assumption)).symm))
  refine WP_loop (γ := Nat) (fun (k : Nat) a w => ∃ (M_2 : Hp), Hp.le M1 M_2 ∧ St w M_2 (OwnS b_1 (keyL (l0.take k)) :: H) ∧ Env a 21 [] [(0, v0), (3, .map (some b_1)), (9, .int .i64 (((l0).length : Nat) : Int)), (10, .int .i64 ((k : Nat) : Int))] ∧ (k ≤ (l0).length)) (fun k => ((l0).length) - k) 0 ⟨M1, Hp.le.refl _, S, E.keep ⟨rfl, rfl, rfl, rfl, trivial⟩, by ((try clear S); (try clear E); first | assumption | omega | rfl | (simp; done) | (simp_all; done) | (simp [List.take_add_one, *]; done) | grind [List.take_add_one])⟩ ?_
  try clear E
  try clear S
  try clear a
  try clear w
  rintro k a w ⟨M_2, hM_2, S, E, hL0_0⟩
  replace h0 := h0.le hM_2
  refine WP_seq ?_
  refine WP_region ?_
  refine S_v E rfl (R_lss E rfl rfl) rfl ?_
  clear E a; intro a E
  refine WL_nil ?_
  refine T_n ?_
  refine WP_seq ?_
  refine WP_cond E rfl (fun hc_3 => ?_) (fun hc_3 => ?_)
  · replace hc_3 := of_decide_eq_true hc_3
    refine WP_skip ?_
    refine T_n ?_
    refine WP_seq ?_
    refine WP_block ?_
    refine WP_seq ?_
    refine WP_region ?_
    refine S_v E rfl (R_move E rfl) rfl ?_
    clear E a; intro a E
    refine S_v E rfl (R_assign E rfl) rfl ?_
    clear E a; intro a E
    refine WL_nil ?_
    refine T_n ?_
    refine WP_region ?_
    refine S_v E rfl (R_move E rfl) rfl ?_
    clear E a; intro a E
    refine S_v E rfl (R_move E rfl) rfl ?_
    clear E a; intro a E
    refine S_v E rfl (R_move E rfl) rfl ?_
    clear E a; intro a E
    obtain ⟨x_4, hx_4⟩ : ∃ x, (l0)[k]? = some x := ⟨_, List.getElem?_eq_getElem (by first | omega | (simp; done) | (simp; omega) | (simp_all; omega))⟩
    obtain ⟨p_5, hp_5, qp_5⟩ := h0.at hx_4
    refine S_v E rfl (R_idx E rfl rfl T22 hp_5 rfl) rfl ?_
    clear E a; intro a E
    refine S_v E rfl (R_loadM E rfl Tryz.isAgg3 S.imm qp_5) rfl ?_
    clear E a; intro a E
    refine S_v E rfl (R_build (u := .agg #[]) (vs := []) E rfl (fun w => FB104__  w)) rfl ?_
    clear E a; intro a E
    refine S_x0 (X_updateS E S MT102 rfl rfl rfl ?_)
    clear E a S; rintro a w E S
    refine WL_nil ?_
    refine B_n ?_
    refine T_n ?_
    refine WP_region ?_
    refine S_v E rfl (R_addx (m := ((k + 1 : Nat) : Int)) E rfl rfl (by omega) (by omega)) rfl ?_
    clear E a; intro a E
    refine S_v E rfl (R_move E rfl) rfl ?_
    clear E a; intro a E
    refine WL_nil ?_
    refine T_n ?_
    replace S := S.reM (L' := (Sl.encS (keyL (l0.take (k + 1))))) (congrArg Sl.encS (show addS (keyL (l0.take k)) x_4 = keyL (l0.take (k + 1)) by first | (simp [keyL]; done) | exact (keyL_succ (by assumption)).symm))
    exact ⟨k + 1, ⟨M_2, hM_2, S, E.keep ⟨rfl, rfl, rfl, rfl, trivial⟩, by ((try clear S); (try clear E); first | assumption | omega | rfl | (simp; done) | (simp_all; done) | (simp [List.take_add_one, *]; done) | grind [List.take_add_one])⟩, by omega⟩
  · replace hc_3 := of_decide_eq_false hc_3
    refine WP_exit ?_
    refine T_x ?_
    refine T_x ?_
    refine B_x ?_
    refine T_n ?_
    refine WP_seq ?_
    refine WP_region ?_
    refine S_v E rfl (R_move E rfl) rfl ?_
    clear E a; intro a E
    refine S_v E rfl (R_assign E rfl) rfl ?_
    clear E a; intro a E
    refine WL_nil ?_
    refine T_n ?_
    refine WP_ret ?_
    replace S := S.reM (L' := (Sl.encS (keyL l0))) (congrArg Sl.encS (show keyL (l0.take k) = keyL l0 by (rw [List.take_of_length_le (by omega)])))
    exact F_ret1 E Tryz.results73 rfl ⟨_, rfl, M_2, _, hM_2, ⟨_, rfl, rfl⟩, S⟩

set_option maxRecDepth 100000 in
set_option maxHeartbeats 4000000 in
theorem lo_Difference {M : Hp} {v0 v1 : Value} {l0 l1 : List Int} (h0 : RdI M v0 l0) (h1 : RdI M v1 l1)(hb : l0.length ≤ 1000000000000) (hc : l1.length ≤ 1000000000000) :
    Pu Tryz.prog (.func (.func 47) #[] #[]) M [v0, v1] (fun r M' => ∃ t0 t1, r = .tuple #[t0, t1] ∧ RdI M' t0 ((l0).filter (fun x => !decide (x ∈ l1))) ∧ RdI M' t1 ((l1).filter (fun x => !decide (x ∈ l0)))) := by
  refine Pu_enter Tryz.func47 rfl Tryz.ntmps47 rfl Tryz.call47 ?_
  intro a w M1 H hM1 S E
  replace h0 := h0.le hM1
  replace h1 := h1.le hM1
  have b0 := h0.bound
  have b1 := h1.bound
  refine WP_seq ?_
  refine WP_region ?_
  refine S_v E rfl (R_assign E rfl) rfl ?_
  clear E a; intro a E
  refine S_v E rfl (R_assign E rfl) rfl ?_
  clear E a; intro a E
  refine WL_nil ?_
  refine T_n ?_
  refine WP_seq ?_
  refine WP_region ?_
  refine S_x (X_buildI (ys := []) E S rfl T22 rfl rfl rfl ?_)
  clear E a S; rintro a w v_1 E S
  refine S_v E rfl (R_assign E rfl) rfl ?_
  clear E a; intro a E
  refine WL_nil ?_
  refine T_n ?_
  refine WP_seq ?_
  refine WP_region ?_
  refine S_x (X_buildI (ys := []) E S rfl T22 rfl rfl rfl ?_)
  clear E a S; rintro a w v_2 E S
  refine S_v E rfl (R_assign E rfl) rfl ?_
  clear E a; intro a E
  refine WL_nil ?_
  refine T_n ?_
  refine WP_seq ?_
  refine WP_region ?_
  refine S_v E rfl (R_move E rfl) rfl ?_
  clear E a; intro a E
  refine S_x (X_sp (p := []) E S rfl rfl rfl (lo_Keyify h0) (Hp.le.refl _) ?_)
  clear E a S; rintro a _ w M_3 _ hM_3 ⟨v_4, rfl, rfl⟩ S E
  replace S : St w M_3 (OwnS v_4 (keyL l0) :: _) := S
  replace h0 := h0.le hM_3
  replace h1 := h1.le hM_3
  refine S_v E rfl (R_assign E rfl) rfl ?_
  clear E a; intro a E
  refine WL_nil ?_
  refine T_n ?_
  refine WP_seq ?_
  refine WP_region ?_
  refine S_v E rfl (R_move E rfl) rfl ?_
  clear E a; intro a E
  refine S_x (X_sp (p := []) E S rfl rfl rfl (lo_Keyify h1) (Hp.le.refl _) ?_)
  clear E a S; rintro a _ w M_5 _ hM_5 ⟨v_6, rfl, rfl⟩ S E
  replace S : St w M_5 (OwnS v_6 (keyL l1) :: _) := S
  replace h0 := h0.le hM_5
  replace h1 := h1.le hM_5
  refine S_v E rfl (R_assign E rfl) rfl ?_
  clear E a; intro a E
  refine WL_nil ?_
  refine T_n ?_
  refine WP_seq ?_
  refine WP_seq ?_
  refine WP_region ?_
  refine S_v E rfl (R_move E rfl) rfl ?_
  clear E a; intro a E
  refine S_v E rfl (R_lenV E rfl T22 h0.len) rfl ?_
  clear E a; intro a E
  refine S_v E rfl (R_move E rfl) rfl ?_
  clear E a; intro a E
  refine WL_nil ?_
  refine T_n ?_
  refine WP_block ?_
  replace S := S.front3
  replace S := S.re1 (l' := (l0.take 0).filter (fun x => !decide (x ∈ keyL l1))) (by (first | (simp; done) | (rw [filter_succ (by assumption)]; first | (simp [*]; done) | (simp_all; done)) | (rw [filter_succ (List.getElem?_eq_getElem (show k < l0.length by omega))]; simp_all; done)))
  refine WP_loop (γ := Nat) (fun (k : Nat) a w => ∃ (M_7 : Hp) (u6 : Value), Hp.le M_5 M_7 ∧ St w M_7 (OwnI 3 u6 ((l0.take k).filter (fun x => !decide (x ∈ keyL l1))) :: OwnS v_6 (keyL l1) :: OwnS v_4 (keyL l0) :: OwnI 3 v_2 ([] : List Int) :: H) ∧ Env a 72 [] [(0, v0), (1, v1), (6, u6), (7, v_2), (8, .map (some v_4)), (9, .map (some v_6)), (23, .int .i64 (((l0).length : Nat) : Int)), (24, .int .i64 ((k : Nat) : Int))] ∧ (k ≤ (l0).length)) (fun k => ((l0).length) - k) 0 ⟨M_5, _, Hp.le.refl _, S, E.keep ⟨rfl, rfl, rfl, rfl, rfl, rfl, rfl, rfl, trivial⟩, by ((try clear S); (try clear E); first | assumption | omega | rfl | (simp; done) | (simp_all; done) | (simp [List.take_add_one, *]; done) | grind [List.take_add_one])⟩ ?_
  try clear E
  try clear S
  try clear a
  try clear w
  rintro k a w ⟨M_7, u6, hM_7, S, E, hL0_0⟩
  replace h0 := h0.le hM_7
  replace h1 := h1.le hM_7
  have wl := List.length_filter_le (fun x => !decide (x ∈ keyL l1)) (l0.take k)
  refine WP_seq ?_
  refine WP_region ?_
  refine S_v E rfl (R_lss E rfl rfl) rfl ?_
  clear E a; intro a E
  refine WL_nil ?_
  refine T_n ?_
  refine WP_seq ?_
  refine WP_cond E rfl (fun hc_8 => ?_) (fun hc_8 => ?_)
  · replace hc_8 := of_decide_eq_true hc_8
    refine WP_skip ?_
    refine T_n ?_
    refine WP_seq ?_
    refine WP_block ?_
    refine WP_seq ?_
    refine WP_region ?_
    refine S_v E rfl (R_move E rfl) rfl ?_
    clear E a; intro a E
    refine S_v E rfl (R_assign E rfl) rfl ?_
    clear E a; intro a E
    refine WL_nil ?_
    refine T_n ?_
    refine WP_seq ?_
    refine WP_region ?_
    refine S_v E rfl (R_move E rfl) rfl ?_
    clear E a; intro a E
    refine S_v E rfl (R_move E rfl) rfl ?_
    clear E a; intro a E
    refine S_v E rfl (R_move E rfl) rfl ?_
    clear E a; intro a E
    obtain ⟨x_9, hx_9⟩ : ∃ x, (l0)[k]? = some x := ⟨_, List.getElem?_eq_getElem (by first | omega | (simp; done) | (simp; omega) | (simp_all; omega))⟩
    obtain ⟨p_10, hp_10, qp_10⟩ := h0.at hx_9
    refine S_v E rfl (R_idx E rfl rfl T22 hp_10 rfl) rfl ?_
    clear E a; intro a E
    refine S_v E rfl (R_loadM E rfl Tryz.isAgg3 S.imm qp_10) rfl ?_
    clear E a; intro a E
    replace S := S.front1
    refine S_x (X_lookupS E S rfl MT102 rfl rfl ?_)
    clear E a S; rintro a w E S
    replace S : St w M_7 (OwnS v_6 (keyL l1) :: _) := S
    refine S_v E rfl (R_move E rfl) rfl ?_
    clear E a; intro a E
    refine S_v E rfl (R_extract E rfl rfl) rfl ?_
    clear E a; intro a E
    refine S_v E rfl (R_extract E rfl rfl) rfl ?_
    clear E a; intro a E
    refine S_x (X_alloc (cs := #[]) E S rfl Tryz.zeroValue104 rfl ?_)
    clear E a S; rintro a w b_11 E S
    refine S_x0 (X_storeG (us := []) E S rfl rfl (Tryz.sizeOf104 _) rfl (by intro u hu; cases hu) ?_)
    clear E a S; rintro a w E S
    replace S : St w M_7 (blk b_11 (.cells #[] 104) :: _) := S
    have S0 := S; clear S
    obtain ⟨M_12, hM_12, hb_13, S⟩ := S0.freezeB
    clear S0
    replace h0 := h0.le hM_12
    replace h1 := h1.le hM_12
    refine S_v E rfl (R_assign E rfl) rfl ?_
    clear E a; intro a E
    refine WL_nil ?_
    refine T_n ?_
    refine WP_seq ?_
    refine WP_region ?_
    refine S_v E rfl (R_move E rfl) rfl ?_
    clear E a; intro a E
    refine S_v E rfl (R_not E rfl) rfl ?_
    clear E a; intro a E
    refine WL_nil ?_
    refine T_n ?_
    refine WP_cond E rfl (fun hc_14 => ?_) (fun hc_14 => ?_)
    · refine WP_region ?_
      refine S_v E rfl (R_move E rfl) rfl ?_
      clear E a; intro a E
      refine S_v E rfl (R_move E rfl) rfl ?_
      clear E a; intro a E
      refine S_v E rfl (R_move E rfl) rfl ?_
      clear E a; intro a E
      obtain ⟨p_15, hp_15, qp_15⟩ := h0.at hx_9
      refine S_v E rfl (R_idx E rfl rfl T22 hp_15 rfl) rfl ?_
      clear E a; intro a E
      refine S_v E rfl (R_loadM E rfl Tryz.isAgg3 S.imm qp_15) rfl ?_
      clear E a; intro a E
      refine S_x (X_buildI (ys := [x_9]) E S rfl T22 rfl rfl rfl ?_)
      clear E a S; rintro a w v_16 E S
      replace S := S.front2
      replace S := S.front1
      refine S_x (X_appendB (xs := (l0.take k).filter (fun x => !decide (x ∈ keyL l1))) (ys := [x_9]) E S rfl rfl rfl T22 (by (simp at wl ⊢; omega)) ?_)
      clear E a S; rintro a w v_17 E S
      refine S_v E rfl (R_assign E rfl) rfl ?_
      clear E a; intro a E
      refine WL_nil ?_
      refine B_n ?_
      refine T_n ?_
      refine WP_region ?_
      refine S_v E rfl (R_addx (m := ((k + 1 : Nat) : Int)) E rfl rfl (by omega) (by omega)) rfl ?_
      clear E a; intro a E
      refine S_v E rfl (R_move E rfl) rfl ?_
      clear E a; intro a E
      refine WL_nil ?_
      refine T_n ?_
      replace S := S.re1 (l' := (l0.take (k + 1)).filter (fun x => !decide (x ∈ keyL l1))) (by (first | (simp; done) | (rw [filter_succ (by assumption)]; first | (simp [*]; done) | (simp_all; done)) | (rw [filter_succ (List.getElem?_eq_getElem (show k < l0.length by omega))]; simp_all; done)))
      exact ⟨k + 1, ⟨M_12, _, (hM_7.trans hM_12), S, E.keep ⟨rfl, rfl, rfl, rfl, rfl, rfl, rfl, rfl, trivial⟩, by ((try clear S); (try clear E); first | assumption | omega | rfl | (simp; done) | (simp_all; done) | (simp [List.take_add_one, *]; done) | grind [List.take_add_one])⟩, by omega⟩
    · refine WP_skip ?_
      refine B_n ?_
      refine T_n ?_
      refine WP_region ?_
      refine S_v E rfl (R_addx (m := ((k + 1 : Nat) : Int)) E rfl rfl (by omega) (by omega)) rfl ?_
      clear E a; intro a E
      refine S_v E rfl (R_move E rfl) rfl ?_
      clear E a; intro a E
      refine WL_nil ?_
      refine T_n ?_
      replace S := S.front3
      replace S := S.front3
      replace S := S.front2
      replace S := S.front3
      replace S := S.re1 (l' := (l0.take (k + 1)).filter (fun x => !decide (x ∈ keyL l1))) (by (first | (simp; done) | (rw [filter_succ (by assumption)]; first | (simp [*]; done) | (simp_all; done)) | (rw [filter_succ (List.getElem?_eq_getElem (show k < l0.length by omega))]; simp_all; done)))
      exact ⟨k + 1, ⟨M_12, _, (hM_7.trans hM_12), S, E.keep ⟨rfl, rfl, rfl, rfl, rfl, rfl, rfl, rfl, trivial⟩, by ((try clear S); (try clear E); first | assumption | omega | rfl | (simp; done) | (simp_all; done) | (simp [List.take_add_one, *]; done) | grind [List.take_add_one])⟩, by omega⟩
  · replace hc_8 := of_decide_eq_false hc_8
    refine WP_exit ?_
    refine T_x ?_
    refine T_x ?_
    refine B_x ?_
    refine T_n ?_
    refine WP_seq ?_
    refine WP_seq ?_
    refine WP_region ?_
    refine S_v E rfl (R_move E rfl) rfl ?_
    clear E a; intro a E
    refine S_v E rfl (R_lenV E rfl T22 h1.len) rfl ?_
    clear E a; intro a E
    refine S_v E rfl (R_move E rfl) rfl ?_
    clear E a; intro a E
    refine WL_nil ?_
    refine T_n ?_
    refine WP_block ?_
    replace S := S.front3
    replace S := S.re1 (l' := (l1.take 0).filter (fun x => !decide (x ∈ keyL l0))) (by (first | (simp; done) | (rw [filter_succ (by assumption)]; first | (simp [*]; done) | (simp_all; done)) | (rw [filter_succ (List.getElem?_eq_getElem (show j < l1.length by omega))]; simp_all; done)))
    refine WP_loop (γ := Nat) (fun (j : Nat) a w => ∃ (M_18 : Hp) (u7 : Value), Hp.le M_7 M_18 ∧ St w M_18 (OwnI 3 u7 ((l1.take j).filter (fun x => !decide (x ∈ keyL l0))) :: OwnI 3 u6 ((l0.take k).filter (fun x => !decide (x ∈ keyL l1))) :: OwnS v_6 (keyL l1) :: OwnS v_4 (keyL l0) :: H) ∧ Env a 72 [] [(1, v1), (6, u6), (7, u7), (8, .map (some v_4)), (47, .int .i64 (((l1).length : Nat) : Int)), (48, .int .i64 ((j : Nat) : Int))] ∧ (j ≤ (l1).length)) (fun j => ((l1).length) - j) 0 ⟨M_7, _, Hp.le.refl _, S, E.keep ⟨rfl, rfl, rfl, rfl, rfl, rfl, trivial⟩, by ((try clear S); (try clear E); first | assumption | omega | rfl | (simp; done) | (simp_all; done) | (simp [List.take_add_one, *]; done) | grind [List.take_add_one])⟩ ?_
    try clear E
    try clear S
    try clear a
    try clear w
    rintro j a w ⟨M_18, u7, hM_18, S, E, hL1_0⟩
    replace h0 := h0.le hM_18
    replace h1 := h1.le hM_18
    have wl := List.length_filter_le (fun x => !decide (x ∈ keyL l0)) (l1.take j)
    refine WP_seq ?_
    refine WP_region ?_
    refine S_v E rfl (R_lss E rfl rfl) rfl ?_
    clear E a; intro a E
    refine WL_nil ?_
    refine T_n ?_
    refine WP_seq ?_
    refine WP_cond E rfl (fun hc_19 => ?_) (fun hc_19 => ?_)
    · replace hc_19 := of_decide_eq_true hc_19
      refine WP_skip ?_
      refine T_n ?_
      refine WP_seq ?_
      refine WP_block ?_
      refine WP_seq ?_
      refine WP_region ?_
      refine S_v E rfl (R_move E rfl) rfl ?_
      clear E a; intro a E
      refine S_v E rfl (R_assign E rfl) rfl ?_
      clear E a; intro a E
      refine WL_nil ?_
      refine T_n ?_
      refine WP_seq ?_
      refine WP_region ?_
      refine S_v E rfl (R_move E rfl) rfl ?_
      clear E a; intro a E
      refine S_v E rfl (R_move E rfl) rfl ?_
      clear E a; intro a E
      refine S_v E rfl (R_move E rfl) rfl ?_
      clear E a; intro a E
      obtain ⟨x_20, hx_20⟩ : ∃ x, (l1)[j]? = some x := ⟨_, List.getElem?_eq_getElem (by first | omega | (simp; done) | (simp; omega) | (simp_all; omega))⟩
      obtain ⟨p_21, hp_21, qp_21⟩ := h1.at hx_20
      refine S_v E rfl (R_idx E rfl rfl T22 hp_21 rfl) rfl ?_
      clear E a; intro a E
      refine S_v E rfl (R_loadM E rfl Tryz.isAgg3 S.imm qp_21) rfl ?_
      clear E a; intro a E
      replace S := S.front3
      refine S_x (X_lookupS E S rfl MT102 rfl rfl ?_)
      clear E a S; rintro a w E S
      replace S : St w M_18 (OwnS v_4 (keyL l0) :: _) := S
      refine S_v E rfl (R_move E rfl) rfl ?_
      clear E a; intro a E
      refine S_v E rfl (R_extract E rfl rfl) rfl ?_
      clear E a; intro a E
      refine S_v E rfl (R_extract E rfl rfl) rfl ?_
      clear E a; intro a E
      refine S_x (X_alloc (cs := #[]) E S rfl Tryz.zeroValue104 rfl ?_)
      clear E a S; rintro a w b_22 E S
      refine S_x0 (X_storeG (us := []) E S rfl rfl (Tryz.sizeOf104 _) rfl (by intro u hu; cases hu) ?_)
      clear E a S; rintro a w E S
      replace S : St w M_18 (blk b_22 (.cells #[] 104) :: _) := S
      have S0 := S; clear S
      obtain ⟨M_23, hM_23, hb_24, S⟩ := S0.freezeB
      clear S0
      replace h0 := h0.le hM_23
      replace h1 := h1.le hM_23
      refine S_v E rfl (R_assign E rfl) rfl ?_
      clear E a; intro a E
      refine WL_nil ?_
      refine T_n ?_
      refine WP_seq ?_
      refine WP_region ?_
      refine S_v E rfl (R_move E rfl) rfl ?_
      clear E a; intro a E
      refine S_v E rfl (R_not E rfl) rfl ?_
      clear E a; intro a E
      refine WL_nil ?_
      refine T_n ?_
      refine WP_cond E rfl (fun hc_25 => ?_) (fun hc_25 => ?_)
      · refine WP_region ?_
        refine S_v E rfl (R_move E rfl) rfl ?_
        clear E a; intro a E
        refine S_v E rfl (R_move E rfl) rfl ?_
        clear E a; intro a E
        refine S_v E rfl (R_move E rfl) rfl ?_
        clear E a; intro a E
        obtain ⟨p_26, hp_26, qp_26⟩ := h1.at hx_20
        refine S_v E rfl (R_idx E rfl rfl T22 hp_26 rfl) rfl ?_
        clear E a; intro a E
        refine S_v E rfl (R_loadM E rfl Tryz.isAgg3 S.imm qp_26) rfl ?_
        clear E a; intro a E
        refine S_x (X_buildI (ys := [x_20]) E S rfl T22 rfl rfl rfl ?_)
        clear E a S; rintro a w v_27 E S
        replace S := S.front2
        replace S := S.front1
        refine S_x (X_appendB (xs := (l1.take j).filter (fun x => !decide (x ∈ keyL l0))) (ys := [x_20]) E S rfl rfl rfl T22 (by (simp at wl ⊢; omega)) ?_)
        clear E a S; rintro a w v_28 E S
        refine S_v E rfl (R_assign E rfl) rfl ?_
        clear E a; intro a E
        refine WL_nil ?_
        refine B_n ?_
        refine T_n ?_
        refine WP_region ?_
        refine S_v E rfl (R_addx (m := ((j + 1 : Nat) : Int)) E rfl rfl (by omega) (by omega)) rfl ?_
        clear E a; intro a E
        refine S_v E rfl (R_move E rfl) rfl ?_
        clear E a; intro a E
        refine WL_nil ?_
        refine T_n ?_
        replace S := S.front1
        replace S := S.front3
        replace S := S.front3
        replace S := S.front3
        replace S := S.re1 (l' := (l1.take (j + 1)).filter (fun x => !decide (x ∈ keyL l0))) (by (first | (simp; done) | (rw [filter_succ (by assumption)]; first | (simp [*]; done) | (simp_all; done)) | (rw [filter_succ (List.getElem?_eq_getElem (show j < l1.length by omega))]; simp_all; done)))
        exact ⟨j + 1, ⟨M_23, _, (hM_18.trans hM_23), S, E.keep ⟨rfl, rfl, rfl, rfl, rfl, rfl, trivial⟩, by ((try clear S); (try clear E); first | assumption | omega | rfl | (simp; done) | (simp_all; done) | (simp [List.take_add_one, *]; done) | grind [List.take_add_one])⟩, by omega⟩
      · refine WP_skip ?_
        refine B_n ?_
        refine T_n ?_
        refine WP_region ?_
        refine S_v E rfl (R_addx (m := ((j + 1 : Nat) : Int)) E rfl rfl (by omega) (by omega)) rfl ?_
        clear E a; intro a E
        refine S_v E rfl (R_move E rfl) rfl ?_
        clear E a; intro a E
        refine WL_nil ?_
        refine T_n ?_
        replace S := S.front3
        replace S := S.front3
        replace S := S.front3
        replace S := S.re1 (l' := (l1.take (j + 1)).filter (fun x => !decide (x ∈ keyL l0))) (by (first | (simp; done) | (rw [filter_succ (by assumption)]; first | (simp [*]; done) | (simp_all; done)) | (rw [filter_succ (List.getElem?_eq_getElem (show j < l1.length by omega))]; simp_all; done)))
        exact ⟨j + 1, ⟨M_23, _, (hM_18.trans hM_23), S, E.keep ⟨rfl, rfl, rfl, rfl, rfl, rfl, trivial⟩, by ((try clear S); (try clear E); first | assumption | omega | rfl | (simp; done) | (simp_all; done) | (simp [List.take_add_one, *]; done) | grind [List.take_add_one])⟩, by omega⟩
    · replace hc_19 := of_decide_eq_false hc_19
      refine WP_exit ?_
      refine T_x ?_
      refine T_x ?_
      refine B_x ?_
      refine T_n ?_
      refine WP_seq ?_
      refine WP_region ?_
      refine S_v E rfl (R_move E rfl) rfl ?_
      clear E a; intro a E
      refine S_v E rfl (R_move E rfl) rfl ?_
      clear E a; intro a E
      refine S_v E rfl (R_assign E rfl) rfl ?_
      clear E a; intro a E
      refine S_v E rfl (R_assign E rfl) rfl ?_
      clear E a; intro a E
      refine WL_nil ?_
      refine T_n ?_
      refine WP_ret ?_
      replace S := S.front1
      have S0 := S; clear S
      obtain ⟨M_29, hM_29, hz_30, S⟩ := S0.freezeI (by (have wl1 := List.length_filter_le (fun x => !decide (x ∈ keyL l1)) (l0.take k); have wl2 := List.length_filter_le (fun x => !decide (x ∈ keyL l0)) (l1.take j); simp at wl1 wl2 ⊢; omega))
      clear S0
      replace h0 := h0.le hM_29
      replace h1 := h1.le hM_29
      have S0 := S; clear S
      obtain ⟨M_31, hM_31, hz_32, S⟩ := S0.freezeI (by (have wl1 := List.length_filter_le (fun x => !decide (x ∈ keyL l1)) (l0.take k); have wl2 := List.length_filter_le (fun x => !decide (x ∈ keyL l0)) (l1.take j); simp at wl1 wl2 ⊢; omega))
      clear S0
      replace h0 := h0.le hM_31
      replace h1 := h1.le hM_31
      replace hz_30 := hz_30.le hM_31
      exact F_ret2 E Tryz.results47 rfl rfl ⟨_, rfl, M_31, (hM_3.trans (hM_5.trans (hM_7.trans (hM_18.trans (hM_29.trans hM_31))))), ⟨_, _, rfl, (by rw [show ((l0).filter (fun x => !decide (x ∈ l1))) = ((l0.take k).filter (fun x => !decide (x ∈ keyL l1))) from by (rw [List.take_of_length_le (by omega)]; simp only [mem_keyL])]; exact hz_30), (by rw [show ((l1).filter (fun x => !decide (x ∈ l0))) = ((l1.take j).filter (fun x => !decide (x ∈ keyL l0))) from by (rw [List.take_of_length_le (by omega)]; simp only [mem_keyL])]; exact hz_32)⟩, S.drop.drop⟩

set_option maxRecDepth 100000 in
set_option maxHeartbeats 4000000 in
theorem impl_Difference {M : Hp} {v0 v1 : Value} {l0 l1 : List Int} (h0 : RdI M v0 l0) (h1 : RdI M v1 l1)(hb : l0.length ≤ 1000000000000) (hc : l1.length ≤ 1000000000000) :
    Pu Tryz.prog (.func (.func 31) #[] #[]) M [v0, v1] (fun r M' => ∃ t0 t1, r = .tuple #[t0, t1] ∧ RdI M' t0 ((l0).filter (fun x => !decide (x ∈ l1))) ∧ RdI M' t1 ((l1).filter (fun x => !decide (x ∈ l0)))) := by
  refine Pu_enter Tryz.func31 rfl Tryz.ntmps31 rfl Tryz.call31 ?_
  intro a w M1 H hM1 S E
  replace h0 := h0.le hM1
  replace h1 := h1.le hM1
  have b0 := h0.bound
  have b1 := h1.bound
  refine WP_seq ?_
  refine WP_region ?_
  refine S_v E rfl (R_assign E rfl) rfl ?_
  clear E a; intro a E
  refine S_v E rfl (R_assign E rfl) rfl ?_
  clear E a; intro a E
  refine WL_nil ?_
  refine T_n ?_
  refine WP_seq ?_
  refine WP_region ?_
  refine S_v E rfl (R_move E rfl) rfl ?_
  clear E a; intro a E
  refine S_v E rfl (R_move E rfl) rfl ?_
  clear E a; intro a E
  refine S_x (X_pu E S rfl rfl rfl (lo_Difference h0 h1 (by (first | omega | (simp; omega) | (simp; done) | (simp_all; omega) | grind)) (by (first | omega | (simp; omega) | (simp; done) | (simp_all; omega) | grind))) (Hp.le.refl _) ?_)
  clear E a S; rintro a _ w M_1 hM_1 ⟨v_2, v_3, rfl, hv_2, hv_3⟩ S E
  replace h0 := h0.le hM_1
  replace h1 := h1.le hM_1
  refine S_v E rfl (R_extract E rfl rfl) rfl ?_
  clear E a; intro a E
  refine S_v E rfl (R_extract E rfl rfl) rfl ?_
  clear E a; intro a E
  refine S_v E rfl (R_assign E rfl) rfl ?_
  clear E a; intro a E
  refine S_v E rfl (R_assign E rfl) rfl ?_
  clear E a; intro a E
  refine WL_nil ?_
  refine T_n ?_
  refine WP_ret ?_
  exact F_ret2 E Tryz.results31 rfl rfl ⟨_, rfl, M_1, hM_1, ⟨_, _, rfl, hv_2, hv_3⟩, S⟩

set_option maxRecDepth 100000 in
set_option maxHeartbeats 4000000 in
theorem lo_Union {M : Hp} {v0 : Value} {l0 : List (List Int)} (h0 : RdII M v0 l0) (hb : total l0 ≤ 1000000000) :
    Pu Tryz.prog (.func (.func 48) #[] #[]) M [v0] (fun r M' => RdI M' r (keyL (l0).flatten)) := by
  refine Pu_enter Tryz.func48 rfl Tryz.ntmps48 rfl Tryz.call48 ?_
  intro a w M1 H hM1 S E
  replace h0 := h0.le hM1
  have b0 := h0.bound
  refine WP_seq ?_
  refine WP_region ?_
  refine S_v E rfl (R_assign E rfl) rfl ?_
  clear E a; intro a E
  refine WL_nil ?_
  refine T_n ?_
  refine WP_seq ?_
  refine WP_region ?_
  refine S_v E rfl (R_assign E rfl) rfl ?_
  clear E a; intro a E
  refine WL_nil ?_
  refine T_n ?_
  refine WP_seq ?_
  refine WP_seq ?_
  refine WP_region ?_
  refine S_v E rfl (R_move E rfl) rfl ?_
  clear E a; intro a E
  refine S_v E rfl (R_lenV E rfl T36 h0.len) rfl ?_
  clear E a; intro a E
  refine S_v E rfl (R_move E rfl) rfl ?_
  clear E a; intro a E
  refine WL_nil ?_
  refine T_n ?_
  refine WP_block ?_
  refine WP_loop (γ := Nat) (fun (k : Nat) a w => ∃ (M_1 : Hp), Hp.le M1 M_1 ∧ St w M_1 (H) ∧ Env a 76 [] [(0, v0), (3, .int .i64 ((total (l0.take k) : Nat) : Int)), (12, v0), (13, .int .i64 (((l0).length : Nat) : Int)), (14, .int .i64 ((k : Nat) : Int))] ∧ (k ≤ (l0).length)) (fun k => ((l0).length) - k) 0 ⟨M1, Hp.le.refl _, S, E.keep ⟨rfl, look_nat (i := 0) rfl (by ((try clear S); (try clear E); first | assumption | omega | rfl | (simp; done) | (simp_all; done) | (simp [List.take_add_one, *]; done) | grind [List.take_add_one])), rfl, rfl, rfl, trivial⟩, by ((try clear S); (try clear E); first | assumption | omega | rfl | (simp; done) | (simp_all; done) | (simp [List.take_add_one, *]; done) | grind [List.take_add_one])⟩ ?_
  try clear E
  try clear S
  try clear a
  try clear w
  rintro k a w ⟨M_1, hM_1, S, E, hL0_0⟩
  replace h0 := h0.le hM_1
  have ht := total_take_le l0 k
  refine WP_seq ?_
  refine WP_region ?_
  refine S_v E rfl (R_lss E rfl rfl) rfl ?_
  clear E a; intro a E
  refine WL_nil ?_
  refine T_n ?_
  refine WP_seq ?_
  refine WP_cond E rfl (fun hc_2 => ?_) (fun hc_2 => ?_)
  · replace hc_2 := of_decide_eq_true hc_2
    refine WP_skip ?_
    refine T_n ?_
    refine WP_seq ?_
    refine WP_block ?_
    refine WP_seq ?_
    refine WP_region ?_
    obtain ⟨x_3, hx_3⟩ : ∃ x, (l0)[k]? = some x := ⟨_, List.getElem?_eq_getElem (by first | omega | (simp_all; done) | (simp_all; omega))⟩
    obtain ⟨p_4, u_5, hp_4, qp_4, hu_5⟩ := h0.at hx_3
    have bu_5 := hu_5.bound
    refine S_v E rfl (R_idx E rfl rfl T36 hp_4 rfl) rfl ?_
    clear E a; intro a E
    refine S_v E rfl (R_loadM E rfl Tryz.isAgg22 S.imm qp_4) rfl ?_
    clear E a; intro a E
    refine S_v E rfl (R_assign E rfl) rfl ?_
    clear E a; intro a E
    refine WL_nil ?_
    refine T_n ?_
    refine WP_region ?_
    refine S_v E rfl (R_move E rfl) rfl ?_
    clear E a; intro a E
    refine S_v E rfl (R_move E rfl) rfl ?_
    clear E a; intro a E
    refine S_v E rfl (R_lenV E rfl T22 hu_5.len) rfl ?_
    clear E a; intro a E
    refine S_v E rfl (R_addx (m := ((total (l0.take k) + (x_3).length : Nat) : Int)) E rfl rfl (by first | omega | (have ht2 := total_take_le l0 (k+1); rw [total_succ (by assumption)] at ht2; omega)) (by first | omega | (have ht2 := total_take_le l0 (k+1); rw [total_succ (by assumption)] at ht2; omega))) rfl ?_
    clear E a; intro a E
    refine S_v E rfl (R_assign E rfl) rfl ?_
    clear E a; intro a E
    refine WL_nil ?_
    refine B_n ?_
    refine T_n ?_
    refine WP_region ?_
    refine S_v E rfl (R_addx (m := ((k + 1 : Nat) : Int)) E rfl rfl (by omega) (by omega)) rfl ?_
    clear E a; intro a E
    refine S_v E rfl (R_move E rfl) rfl ?_
    clear E a; intro a E
    refine WL_nil ?_
    refine T_n ?_
    exact ⟨k + 1, ⟨M_1, hM_1, S, E.keep ⟨rfl, look_nat (i := total (l0.take k) + (x_3).length) rfl (by (rw [total_succ (by assumption)])), rfl, rfl, rfl, trivial⟩, by ((try clear S); (try clear E); first | assumption | omega | rfl | (simp; done) | (simp_all; done) | (simp [List.take_add_one, *]; done) | grind [List.take_add_one])⟩, by omega⟩
  · replace hc_2 := of_decide_eq_false hc_2
    refine WP_exit ?_
    refine T_x ?_
    refine T_x ?_
    refine B_x ?_
    refine T_n ?_
    refine WP_seq ?_
    refine WP_region ?_
    refine S_v E rfl (R_move E rfl) rfl ?_
    clear E a; intro a E
    refine S_x (X_make0 (k := total (l0.take k)) E S rfl rfl rfl T22 rfl (by omega) (by (have ht := total_take_le l0 k; omega)) (by (have ht := total_take_le l0 k; omega)) ?_)
    clear E a S; rintro a w v_6 E S
    replace S := S.made0
    refine S_v E rfl (R_assign E rfl) rfl ?_
    clear E a; intro a E
    refine WL_nil ?_
    refine T_n ?_
    refine WP_seq ?_
    refine WP_region ?_
    refine S_v E rfl (R_move E rfl) rfl ?_
    clear E a; intro a E
    refine S_x (X_makeMapR E S rfl MT102 rfl ?_)
    clear E a S; rintro a w b_7 E S
    replace S : St w M_1 (OwnS b_7 ([] : List Int) :: _) := S
    refine S_v E rfl (R_assign E rfl) rfl ?_
    clear E a; intro a E
    refine WL_nil ?_
    refine T_n ?_
    refine WP_seq ?_
    refine WP_seq ?_
    refine WP_region ?_
    refine S_v E rfl (R_move E rfl) rfl ?_
    clear E a; intro a E
    refine S_v E rfl (R_lenV E rfl T36 h0.len) rfl ?_
    clear E a; intro a E
    refine S_v E rfl (R_move E rfl) rfl ?_
    clear E a; intro a E
    refine WL_nil ?_
    refine T_n ?_
    refine WP_block ?_
    replace S := S.front1
    replace S := S.front1
    replace S := S.reM (L' := (Sl.encS (keyL (l0.take 0).flatten))) (congrArg Sl.encS (show ([] : List Int) = keyL (l0.take 0).flatten by first | rfl | (simp [keyL]; done) | (rw [row_end (j := j) (by assumption) (by omega)]; done)))
    replace S := S.front1
    replace S := S.re1 (l' := keyL (l0.take 0).flatten) (by first | rfl | (simp [keyL]; done) | (rw [row_end (j := j) (by assumption) (by omega)]; done))
    refine WP_loop (γ := Nat) (fun (k : Nat) a w => ∃ (M_8 : Hp) (u6 : Value), Hp.le M_1 M_8 ∧ St w M_8 (OwnI 3 u6 (keyL (l0.take k).flatten) :: OwnS b_7 (keyL (l0.take k).flatten) :: H) ∧ Env a 76 [] [(0, v0), (6, u6), (7, .map (some b_7)), (28, .int .i64 (((l0).length : Nat) : Int)), (29, .int .i64 ((k : Nat) : Int))] ∧ (k ≤ (l0).length)) (fun k => ((l0).length) - k) 0 ⟨M_1, _, Hp.le.refl _, S, E.keep ⟨rfl, rfl, rfl, rfl, rfl, trivial⟩, by ((try clear S); (try clear E); first | assumption | omega | rfl | (simp; done) | (simp_all; done) | (simp [List.take_add_one, *]; done) | grind [List.take_add_one])⟩ ?_
    try clear E
    try clear S
    try clear a
    try clear w
    rintro k a w ⟨M_8, u6, hM_8, S, E, hL1_0⟩
    replace h0 := h0.le hM_8
    have hkl := keyF_le l0 k
    refine WP_seq ?_
    refine WP_region ?_
    refine S_v E rfl (R_lss E rfl rfl) rfl ?_
    clear E a; intro a E
    refine WL_nil ?_
    refine T_n ?_
    refine WP_seq ?_
    refine WP_cond E rfl (fun hc_9 => ?_) (fun hc_9 => ?_)
    · replace hc_9 := of_decide_eq_true hc_9
      refine WP_skip ?_
      refine T_n ?_
      refine WP_seq ?_
      refine WP_block ?_
      refine WP_seq ?_
      refine WP_region ?_
      refine S_v E rfl (R_move E rfl) rfl ?_
      clear E a; intro a E
      refine S_v E rfl (R_assign E rfl) rfl ?_
      clear E a; intro a E
      refine WL_nil ?_
      refine T_n ?_
      refine WP_seq ?_
      refine WP_region ?_
      refine S_v E rfl (R_move E rfl) rfl ?_
      clear E a; intro a E
      refine S_v E rfl (R_move E rfl) rfl ?_
      clear E a; intro a E
      obtain ⟨x_10, hx_10⟩ : ∃ x, (l0)[k]? = some x := ⟨_, List.getElem?_eq_getElem (by first | omega | (simp_all; done) | (simp_all; omega))⟩
      obtain ⟨p_11, u_12, hp_11, qp_11, hu_12⟩ := h0.at hx_10
      have bu_12 := hu_12.bound
      refine S_v E rfl (R_idx E rfl rfl T36 hp_11 rfl) rfl ?_
      clear E a; intro a E
      refine S_v E rfl (R_loadM E rfl Tryz.isAgg22 S.imm qp_11) rfl ?_
      clear E a; intro a E
      refine S_v E rfl (R_lenV E rfl T22 hu_12.len) rfl ?_
      clear E a; intro a E
      refine S_v E rfl (R_move E rfl) rfl ?_
      clear E a; intro a E
      refine WL_nil ?_
      refine T_n ?_
      refine WP_block ?_
      replace S := S.front1
      replace S := S.front1
      replace S := S.front1
      replace S := S.reM (L' := (Sl.encS (keyL ((l0.take k).flatten ++ (l0[k]?.getD []).take 0)))) (congrArg Sl.encS (show keyL (l0.take k).flatten = keyL ((l0.take k).flatten ++ (l0[k]?.getD []).take 0) by (first | (simp; done) | (rw [row_snoc (by assumption) (by assumption), keyL_snoc]; done) | (rw [row_snoc (by assumption) (by assumption), keyL_snoc]; first | rfl | (unfold addS; first | (rw [if_pos (by assumption)]; done) | (rw [if_neg (by assumption)]; done) | (rw [if_neg]; simp_all; done) | (rw [if_pos]; simp_all; done))))))
      replace S := S.front1
      replace S := S.re1 (l' := keyL ((l0.take k).flatten ++ (l0[k]?.getD []).take 0)) (by (first | (simp; done) | (rw [row_snoc (by assumption) (by assumption), keyL_snoc]; done) | (rw [row_snoc (by assumption) (by assumption), keyL_snoc]; first | rfl | (unfold addS; first | (rw [if_pos (by assumption)]; done) | (rw [if_neg (by assumption)]; done) | (rw [if_neg]; simp_all; done) | (rw [if_pos]; simp_all; done)))))
      refine WP_loop (γ := Nat) (fun (j : Nat) a w => ∃ (M_13 : Hp) (u6 : Value), Hp.le M_8 M_13 ∧ St w M_13 (OwnI 3 u6 (keyL ((l0.take k).flatten ++ (l0[k]?.getD []).take j)) :: OwnS b_7 (keyL ((l0.take k).flatten ++ (l0[k]?.getD []).take j)) :: H) ∧ Env a 76 [] [(0, v0), (6, u6), (7, .map (some b_7)), (8, .int .i64 ((k : Nat) : Int)), (28, .int .i64 (((l0).length : Nat) : Int)), (29, .int .i64 ((k : Nat) : Int)), (36, .int .i64 (((x_10).length : Nat) : Int)), (37, .int .i64 ((j : Nat) : Int))] ∧ (j ≤ (x_10).length)) (fun j => ((x_10).length) - j) 0 ⟨M_8, _, Hp.le.refl _, S, E.keep ⟨rfl, rfl, rfl, rfl, rfl, rfl, rfl, rfl, trivial⟩, by ((try clear S); (try clear E); first | assumption | omega | rfl | (simp; done) | (simp_all; done) | (simp [List.take_add_one, *]; done) | grind [List.take_add_one])⟩ ?_
      try clear E
      try clear S
      try clear a
      try clear w
      rintro j a w ⟨M_13, u6, hM_13, S, E, hL2_0⟩
      replace h0 := h0.le hM_13
      replace hu_12 := hu_12.le hM_13
      have hkl := keyU_le l0 k j
      refine WP_seq ?_
      refine WP_region ?_
      refine S_v E rfl (R_lss E rfl rfl) rfl ?_
      clear E a; intro a E
      refine WL_nil ?_
      refine T_n ?_
      refine WP_seq ?_
      refine WP_cond E rfl (fun hc_14 => ?_) (fun hc_14 => ?_)
      · replace hc_14 := of_decide_eq_true hc_14
        refine WP_skip ?_
        refine T_n ?_
        refine WP_seq ?_
        refine WP_block ?_
        refine WP_seq ?_
        refine WP_region ?_
        refine S_v E rfl (R_move E rfl) rfl ?_
        clear E a; intro a E
        refine S_v E rfl (R_assign E rfl) rfl ?_
        clear E a; intro a E
        refine WL_nil ?_
        refine T_n ?_
        refine WP_seq ?_
        refine WP_region ?_
        refine S_v E rfl (R_move E rfl) rfl ?_
        clear E a; intro a E
        refine S_v E rfl (R_move E rfl) rfl ?_
        clear E a; intro a E
        refine S_v E rfl (R_move E rfl) rfl ?_
        clear E a; intro a E
        obtain ⟨x_15, hx_15⟩ : ∃ x, (l0)[k]? = some x := ⟨_, List.getElem?_eq_getElem (by first | omega | (simp_all; done) | (simp_all; omega))⟩
        obtain ⟨p_16, u_17, hp_16, qp_16, hu_17⟩ := h0.at hx_15
        have bu_17 := hu_17.bound
        refine S_v E rfl (R_idx E rfl rfl T36 hp_16 rfl) rfl ?_
        clear E a; intro a E
        refine S_v E rfl (R_loadM E rfl Tryz.isAgg22 S.imm qp_16) rfl ?_
        clear E a; intro a E
        refine S_v E rfl (R_move E rfl) rfl ?_
        clear E a; intro a E
        obtain ⟨x_18, hx_18⟩ : ∃ x, (x_15)[j]? = some x := ⟨_, List.getElem?_eq_getElem (by first | omega | (simp_all; done) | (simp_all; omega))⟩
        obtain ⟨p_19, hp_19, qp_19⟩ := hu_17.at hx_18
        refine S_v E rfl (R_idx E rfl rfl T22 hp_19 rfl) rfl ?_
        clear E a; intro a E
        refine S_v E rfl (R_loadM E rfl Tryz.isAgg3 S.imm qp_19) rfl ?_
        clear E a; intro a E
        replace S := S.front1
        refine S_x (X_lookupS E S rfl MT102 rfl rfl ?_)
        clear E a S; rintro a w E S
        replace S : St w M_13 (OwnS b_7 (keyL ((l0.take k).flatten ++ (l0[k]?.getD []).take j)) :: _) := S
        refine S_v E rfl (R_move E rfl) rfl ?_
        clear E a; intro a E
        refine S_v E rfl (R_extract E rfl rfl) rfl ?_
        clear E a; intro a E
        refine S_v E rfl (R_extract E rfl rfl) rfl ?_
        clear E a; intro a E
        refine S_x (X_alloc (cs := #[]) E S rfl Tryz.zeroValue104 rfl ?_)
        clear E a S; rintro a w b_20 E S
        refine S_x0 (X_storeG (us := []) E S rfl rfl (Tryz.sizeOf104 _) rfl (by intro u hu; cases hu) ?_)
        clear E a S; rintro a w E S
        replace S : St w M_13 (blk b_20 (.cells #[] 104) :: _) := S
        have S0 := S; clear S
        obtain ⟨M_21, hM_21, hb_22, S⟩ := S0.freezeB
        clear S0
        replace h0 := h0.le hM_21
        replace hu_12 := hu_12.le hM_21
        replace hu_17 := hu_17.le hM_21
        refine S_v E rfl (R_assign E rfl) rfl ?_
        clear E a; intro a E
        refine WL_nil ?_
        refine T_n ?_
        refine WP_seq ?_
        refine WP_region ?_
        refine S_v E rfl (R_move E rfl) rfl ?_
        clear E a; intro a E
        refine S_v E rfl (R_not E rfl) rfl ?_
        clear E a; intro a E
        refine WL_nil ?_
        refine T_n ?_
        refine WP_cond E rfl (fun hc_23 => ?_) (fun hc_23 => ?_)
        · refine WP_seq ?_
          refine WP_region ?_
          refine S_v E rfl (R_move E rfl) rfl ?_
          clear E a; intro a E
          refine S_v E rfl (R_move E rfl) rfl ?_
          clear E a; intro a E
          refine S_v E rfl (R_move E rfl) rfl ?_
          clear E a; intro a E
          obtain ⟨p_24, u_25, hp_24, qp_24, hu_25⟩ := h0.at hx_15
          have bu_25 := hu_25.bound
          refine S_v E rfl (R_idx E rfl rfl T36 hp_24 rfl) rfl ?_
          clear E a; intro a E
          refine S_v E rfl (R_loadM E rfl Tryz.isAgg22 S.imm qp_24) rfl ?_
          clear E a; intro a E
          refine S_v E rfl (R_move E rfl) rfl ?_
          clear E a; intro a E
          obtain ⟨p_26, hp_26, qp_26⟩ := hu_25.at hx_18
          refine S_v E rfl (R_idx E rfl rfl T22 hp_26 rfl) rfl ?_
          clear E a; intro a E
          refine S_v E rfl (R_loadM E rfl Tryz.isAgg3 S.imm qp_26) rfl ?_
          clear E a; intro a E
          refine S_v E rfl (R_build (u := .agg #[]) (vs := []) E rfl (fun w => FB104__  w)) rfl ?_
          clear E a; intro a E
          refine S_x0 (X_updateS E S MT102 rfl rfl rfl ?_)
          clear E a S; rintro a w E S
          refine WL_nil ?_
          refine T_n ?_
          refine WP_region ?_
          refine S_v E rfl (R_move E rfl) rfl ?_
          clear E a; intro a E
          refine S_v E rfl (R_move E rfl) rfl ?_
          clear E a; intro a E
          refine S_v E rfl (R_move E rfl) rfl ?_
          clear E a; intro a E
          obtain ⟨p_27, u_28, hp_27, qp_27, hu_28⟩ := h0.at hx_15
          have bu_28 := hu_28.bound
          refine S_v E rfl (R_idx E rfl rfl T36 hp_27 rfl) rfl ?_
          clear E a; intro a E
          refine S_v E rfl (R_loadM E rfl Tryz.isAgg22 S.imm qp_27) rfl ?_
          clear E a; intro a E
          refine S_v E rfl (R_move E rfl) rfl ?_
          clear E a; intro a E
          obtain ⟨p_29, hp_29, qp_29⟩ := hu_28.at hx_18
          refine S_v E rfl (R_idx E rfl rfl T22 hp_29 rfl) rfl ?_
          clear E a; intro a E
          refine S_v E rfl (R_loadM E rfl Tryz.isAgg3 S.imm qp_29) rfl ?_
          clear E a; intro a E
          refine S_x (X_buildI (ys := [x_18]) E S rfl T22 rfl rfl rfl ?_)
          clear E a S; rintro a w v_30 E S
          replace S := S.front2
          replace S := S.front1
          refine S_x (X_appendB (xs := keyL ((l0.take k).flatten ++ (l0[k]?.getD []).take j)) (ys := [x_18]) E S rfl rfl rfl T22 (by first | omega | (simp; done) | (simp; omega) | (simp_all; omega)) ?_)
          clear E a S; rintro a w v_31 E S
          refine S_v E rfl (R_assign E rfl) rfl ?_
          clear E a; intro a E
          refine WL_nil ?_
          refine B_n ?_
          refine T_n ?_
          refine WP_region ?_
          refine S_v E rfl (R_addx (m := ((j + 1 : Nat) : Int)) E rfl rfl (by omega) (by omega)) rfl ?_
          clear E a; intro a E
          refine S_v E rfl (R_move E rfl) rfl ?_
          clear E a; intro a E
          refine WL_nil ?_
          refine T_n ?_
          replace S := S.front1
          replace S := S.reM (L' := (Sl.encS (keyL ((l0.take k).flatten ++ (l0[k]?.getD []).take (j + 1))))) (congrArg Sl.encS (show addS (keyL ((l0.take k).flatten ++ (l0[k]?.getD []).take j)) x_18 = keyL ((l0.take k).flatten ++ (l0[k]?.getD []).take (j + 1)) by (first | (simp; done) | (rw [row_snoc (by assumption) (by assumption), keyL_snoc]; done) | (rw [row_snoc (by assumption) (by assumption), keyL_snoc]; first | rfl | (unfold addS; first | (rw [if_pos (by assumption)]; done) | (rw [if_neg (by assumption)]; done) | (rw [if_neg]; simp_all; done) | (rw [if_pos]; simp_all; done))))))
          replace S := S.front1
          replace S := S.re1 (l' := keyL ((l0.take k).flatten ++ (l0[k]?.getD []).take (j + 1))) (by (first | (simp; done) | (rw [row_snoc (by assumption) (by assumption), keyL_snoc]; done) | (rw [row_snoc (by assumption) (by assumption), keyL_snoc]; first | rfl | (unfold addS; first | (rw [if_pos (by assumption)]; done) | (rw [if_neg (by assumption)]; done) | (rw [if_neg]; simp_all; done) | (rw [if_pos]; simp_all; done)))))
          exact ⟨j + 1, ⟨M_21, _, (hM_13.trans hM_21), S, E.keep ⟨rfl, rfl, rfl, rfl, rfl, rfl, rfl, rfl, trivial⟩, by ((try clear S); (try clear E); first | assumption | omega | rfl | (simp; done) | (simp_all; done) | (simp [List.take_add_one, *]; done) | grind [List.take_add_one])⟩, by omega⟩
        · refine WP_skip ?_
          refine B_n ?_
          refine T_n ?_
          refine WP_region ?_
          refine S_v E rfl (R_addx (m := ((j + 1 : Nat) : Int)) E rfl rfl (by omega) (by omega)) rfl ?_
          clear E a; intro a E
          refine S_v E rfl (R_move E rfl) rfl ?_
          clear E a; intro a E
          refine WL_nil ?_
          refine T_n ?_
          replace S := S.front1
          replace S := S.front1
          replace S := S.reM (L' := (Sl.encS (keyL ((l0.take k).flatten ++ (l0[k]?.getD []).take (j + 1))))) (congrArg Sl.encS (show keyL ((l0.take k).flatten ++ (l0[k]?.getD []).take j) = keyL ((l0.take k).flatten ++ (l0[k]?.getD []).take (j + 1)) by (first | (simp; done) | (rw [row_snoc (by assumption) (by assumption), keyL_snoc]; done) | (rw [row_snoc (by assumption) (by assumption), keyL_snoc]; first | rfl | (unfold addS; first | (rw [if_pos (by assumption)]; done) | (rw [if_neg (by assumption)]; done) | (rw [if_neg]; simp_all; done) | (rw [if_pos]; simp_all; done))))))
          replace S := S.front1
          replace S := S.re1 (l' := keyL ((l0.take k).flatten ++ (l0[k]?.getD []).take (j + 1))) (by (first | (simp; done) | (rw [row_snoc (by assumption) (by assumption), keyL_snoc]; done) | (rw [row_snoc (by assumption) (by assumption), keyL_snoc]; first | rfl | (unfold addS; first | (rw [if_pos (by assumption)]; done) | (rw [if_neg (by assumption)]; done) | (rw [if_neg]; simp_all; done) | (rw [if_pos]; simp_all; done)))))
          exact ⟨j + 1, ⟨M_21, _, (hM_13.trans hM_21), S, E.keep ⟨rfl, rfl, rfl, rfl, rfl, rfl, rfl, rfl, trivial⟩, by ((try clear S); (try clear E); first | assumption | omega | rfl | (simp; done) | (simp_all; done) | (simp [List.take_add_one, *]; done) | grind [List.take_add_one])⟩, by omega⟩
      · replace hc_14 := of_decide_eq_false hc_14
        refine WP_exit ?_
        refine T_x ?_
        refine T_x ?_
        refine B_x ?_
        refine B_n ?_
        refine T_n ?_
        refine WP_region ?_
        refine S_v E rfl (R_addx (m := ((k + 1 : Nat) : Int)) E rfl rfl (by omega) (by omega)) rfl ?_
        clear E a; intro a E
        refine S_v E rfl (R_move E rfl) rfl ?_
        clear E a; intro a E
        refine WL_nil ?_
        refine T_n ?_
        replace S := S.front1
        replace S := S.reM (L' := (Sl.encS (keyL (l0.take (k + 1)).flatten))) (congrArg Sl.encS (show keyL ((l0.take k).flatten ++ (l0[k]?.getD []).take j) = keyL (l0.take (k + 1)).flatten by first | rfl | (simp [keyL]; done) | (rw [row_end (j := j) (by assumption) (by omega)]; done)))
        replace S := S.front1
        replace S := S.re1 (l' := keyL (l0.take (k + 1)).flatten) (by first | rfl | (simp [keyL]; done) | (rw [row_end (j := j) (by assumption) (by omega)]; done))
        exact ⟨k + 1, ⟨M_13, _, (hM_8.trans hM_13), S, E.keep ⟨rfl, rfl, rfl, rfl, rfl, trivial⟩, by ((try clear S); (try clear E); first | assumption | omega | rfl | (simp; done) | (simp_all; done) | (simp [List.take_add_one, *]; done) | grind [List.take_add_one])⟩, by omega⟩
    · replace hc_9 := of_decide_eq_false hc_9
      refine WP_exit ?_
      refine T_x ?_
      refine T_x ?_
      refine B_x ?_
      refine T_n ?_
      refine WP_seq ?_
      refine WP_region ?_
      refine S_v E rfl (R_move E rfl) rfl ?_
      clear E a; intro a E
      refine S_v E rfl (R_assign E rfl) rfl ?_
      clear E a; intro a E
      refine WL_nil ?_
      refine T_n ?_
      refine WP_ret ?_
      have S0 := S; clear S
      obtain ⟨M_32, hM_32, hz_33, S⟩ := S0.freezeI (by (have hkl := keyF_le l0 k; omega))
      clear S0
      replace h0 := h0.le hM_32
      exact F_ret1 E Tryz.results48 rfl ⟨_, rfl, M_32, (hM_1.trans (hM_8.trans hM_32)), (by rw [show (keyL (l0).flatten) = (keyL (l0.take k).flatten) from by (rw [List.take_of_length_le (by omega)])]; exact hz_33), S.drop⟩

set_option maxRecDepth 100000 in
set_option maxHeartbeats 4000000 in
theorem impl_Union {M : Hp} {v0 : Value} {l0 : List (List Int)} (h0 : RdII M v0 l0) (hb : total l0 ≤ 1000000000) :
    Pu Tryz.prog (.func (.func 32) #[] #[]) M [v0] (fun r M' => RdI M' r (keyL (l0).flatten)) := by
  refine Pu_enter Tryz.func32 rfl Tryz.ntmps32 rfl Tryz.call32 ?_
  intro a w M1 H hM1 S E
  replace h0 := h0.le hM1
  have b0 := h0.bound
  have hul := keyF_le l0 l0.length
  rw [List.take_of_length_le (Nat.le_refl _)] at hul
  refine WP_seq ?_
  refine WP_region ?_
  refine S_v E rfl (R_assign E rfl) rfl ?_
  clear E a; intro a E
  refine WL_nil ?_
  refine T_n ?_
  refine WP_seq ?_
  refine WP_region ?_
  refine S_v E rfl (R_move E rfl) rfl ?_
  clear E a; intro a E
  refine S_x (X_pu E S rfl rfl rfl (lo_Union h0 (by first | assumption | omega | decide | (simp [total]; omega) | (simp [total]; done))) (Hp.le.refl _) ?_)
  clear E a S; rintro a v_2 w M_1 hM_1 hv_2 S E
  replace h0 := h0.le hM_1
  refine S_v E rfl (R_assign E rfl) rfl ?_
  clear E a; intro a E
  refine WL_nil ?_
  refine T_n ?_
  refine WP_ret ?_
  exact F_ret1 E Tryz.results32 rfl ⟨_, rfl, M_1, hM_1, hv_2, S⟩

set_option maxRecDepth 100000 in
set_option maxHeartbeats 4000000 in
theorem laws_eq {M : Hp} {v0 v1 : Value} {l0 l1 : List Int} (h0 : RdI M v0 l0) (h1 : RdI M v1 l1) :
    Pu Tryz.prog (.func (.func 19) #[] #[]) M [v0, v1] (fun r M' => r = .bool (decide (l0 = l1))) := by
  refine Pu_enter Tryz.func19 rfl Tryz.ntmps19 rfl Tryz.call19 ?_
  intro a w M1 H hM1 S E
  replace h0 := h0.le hM1
  replace h1 := h1.le hM1
  have b0 := h0.bound
  have b1 := h1.bound
  refine WP_seq ?_
  refine WP_region ?_
  refine S_v E rfl (R_assign E rfl) rfl ?_
  clear E a; intro a E
  refine WL_nil ?_
  refine T_n ?_
  refine WP_seq ?_
  refine WP_seq ?_
  refine WP_region ?_
  refine S_v E rfl (R_move E rfl) rfl ?_
  clear E a; intro a E
  refine S_v E rfl (R_lenV E rfl T22 h0.len) rfl ?_
  clear E a; intro a E
  refine S_v E rfl (R_move E rfl) rfl ?_
  clear E a; intro a E
  refine S_v E rfl (R_lenV E rfl T22 h1.len) rfl ?_
  clear E a; intro a E
  refine S_v E rfl (R_neq E rfl rfl) rfl ?_
  clear E a; intro a E
  refine WL_nil ?_
  refine T_n ?_
  refine WP_cond E rfl (fun hc_1 => ?_) (fun hc_1 => ?_)
  · replace hc_1 := of_decide_eq_true hc_1
    refine WP_seq ?_
    refine WP_region ?_
    refine S_v E rfl (R_assign E rfl) rfl ?_
    clear E a; intro a E
    refine WL_nil ?_
    refine T_n ?_
    refine WP_ret ?_
    refine T_r ?_
    exact F_ret1 E Tryz.results19 rfl ⟨_, rfl, M1, (Hp.le.refl _), (bF (by ((try clear S); (try clear E); first | assumption | omega | rfl | (simp; done) | (simp_all; done) | (simp [List.take_add_one, *]; done) | grind [List.take_add_one]))), S⟩
  · replace hc_1 := of_decide_eq_false hc_1
    refine WP_skip ?_
    refine T_n ?_
    refine WP_seq ?_
    refine WP_seq ?_
    refine WP_region ?_
    refine S_v E rfl (R_move E rfl) rfl ?_
    clear E a; intro a E
    refine S_v E rfl (R_lenV E rfl T22 h0.len) rfl ?_
    clear E a; intro a E
    refine S_v E rfl (R_move E rfl) rfl ?_
    clear E a; intro a E
    refine WL_nil ?_
    refine T_n ?_
    refine WP_block ?_
    refine WP_loop (γ := Nat) (fun (k : Nat) a w => ∃ (M_2 : Hp), Hp.le M1 M_2 ∧ St w M_2 (H) ∧ Env a 26 [] [(0, v0), (1, v1), (12, .int .i64 (((l0).length : Nat) : Int)), (13, .int .i64 ((k : Nat) : Int))] ∧ (k ≤ (l0).length) ∧ (l0.length = l1.length) ∧ (l0.take k = l1.take k)) (fun k => ((l0).length) - k) 0 ⟨M1, Hp.le.refl _, S, E.keep ⟨rfl, rfl, rfl, rfl, trivial⟩, by ((try clear S); (try clear E); first | assumption | omega | rfl | (simp; done) | (simp_all; done) | (simp [List.take_add_one, *]; done) | grind [List.take_add_one]), by ((try clear S); (try clear E); first | assumption | omega | rfl | (simp; done) | (simp_all; done) | (simp [List.take_add_one, *]; done) | grind [List.take_add_one]), by ((try clear S); (try clear E); first | assumption | omega | rfl | (simp; done) | (simp_all; done) | (simp [List.take_add_one, *]; done) | grind [List.take_add_one])⟩ ?_
    try clear E
    try clear S
    try clear a
    try clear w
    rintro k a w ⟨M_2, hM_2, S, E, hL0_0, hL0_1, hL0_2⟩
    replace h0 := h0.le hM_2
    replace h1 := h1.le hM_2
    refine WP_seq ?_
    refine WP_region ?_
    refine S_v E rfl (R_lss E rfl rfl) rfl ?_
    clear E a; intro a E
    refine WL_nil ?_
    refine T_n ?_
    refine WP_seq ?_
    refine WP_cond E rfl (fun hc_3 => ?_) (fun hc_3 => ?_)
    · replace hc_3 := of_decide_eq_true hc_3
      refine WP_skip ?_
      refine T_n ?_
      refine WP_seq ?_
      refine WP_block ?_
      refine WP_seq ?_
      refine WP_region ?_
      refine S_v E rfl (R_move E rfl) rfl ?_
      clear E a; intro a E
      refine S_v E rfl (R_assign E rfl) rfl ?_
      clear E a; intro a E
      refine WL_nil ?_
      refine T_n ?_
      refine WP_seq ?_
      replace S := S.mono_heap (w' := World.drew _) rfl
      refine WP_drawn (C := fun x w => agree M_2 w) (bf := (fun i => [])) [0, 1, 2, 3, 4, 5, 6, 7, 8] [0, 1, 2, 3, 4, 5, 6, 7, 8] Tryz.mixed (by kernel_rfl) (fun x hq => S.imm) ?_
      refine D_v E rfl rfl rfl (fun w hC => (R_move E rfl)) ?_
      clear E a; intro a E
      refine D_v E rfl rfl rfl (fun w hC => (R_move E rfl)) ?_
      clear E a; intro a E
      obtain ⟨x_4, hx_4⟩ : ∃ x, (l0)[k]? = some x := ⟨_, List.getElem?_eq_getElem (by first | omega | (simp; done) | (simp; omega) | (simp_all; omega))⟩
      obtain ⟨p_5, hp_5, qp_5⟩ := h0.at hx_4
      refine D_v E rfl rfl rfl (fun w hC => (R_idx E rfl rfl T22 hp_5 rfl)) ?_
      clear E a; intro a E
      refine D_v E rfl rfl rfl (fun w hC => (R_loadM E rfl Tryz.isAgg3 hC qp_5)) ?_
      clear E a; intro a E
      refine D_v E rfl rfl rfl (fun w hC => (R_move E rfl)) ?_
      clear E a; intro a E
      refine D_v E rfl rfl rfl (fun w hC => (R_move E rfl)) ?_
      clear E a; intro a E
      obtain ⟨x_6, hx_6⟩ : ∃ x, (l1)[k]? = some x := ⟨_, List.getElem?_eq_getElem (by first | omega | (simp; done) | (simp; omega) | (simp_all; omega))⟩
      obtain ⟨p_7, hp_7, qp_7⟩ := h1.at hx_6
      refine D_v E rfl rfl rfl (fun w hC => (R_idx E rfl rfl T22 hp_7 rfl)) ?_
      clear E a; intro a E
      refine D_v E rfl rfl rfl (fun w hC => (R_loadM E rfl Tryz.isAgg3 hC qp_7)) ?_
      clear E a; intro a E
      refine D_v E rfl rfl rfl (fun w hC => (R_neq E rfl rfl)) ?_
      clear E a; intro a E
      refine D_end (NoP_n ?_)
      refine T_n ?_
      refine WP_cond E rfl (fun hc_8 => ?_) (fun hc_8 => ?_)
      · replace hc_8 := of_decide_eq_true hc_8
        refine WP_seq ?_
        refine WP_region ?_
        refine S_v E rfl (R_assign E rfl) rfl ?_
        clear E a; intro a E
        refine WL_nil ?_
        refine T_n ?_
        refine WP_ret ?_
        refine B_r ?_
        refine T_r ?_
        refine T_r ?_
        refine B_r ?_
        refine T_r ?_
        exact F_ret1 E Tryz.results19 rfl ⟨_, rfl, M_2, hM_2, (bF (by ((try clear S); (try clear E); first | assumption | omega | rfl | (simp; done) | (simp_all; done) | (simp [List.take_add_one, *]; done) | grind [List.take_add_one]))), S⟩
      · replace hc_8 := of_decide_eq_false hc_8
        refine WP_skip ?_
        refine B_n ?_
        refine T_n ?_
        refine WP_region ?_
        refine S_v E rfl (R_addx (m := ((k + 1 : Nat) : Int)) E rfl rfl (by omega) (by omega)) rfl ?_
        clear E a; intro a E
        refine S_v E rfl (R_move E rfl) rfl ?_
        clear E a; intro a E
        refine WL_nil ?_
        refine T_n ?_
        exact ⟨k + 1, ⟨M_2, hM_2, S, E.keep ⟨rfl, rfl, rfl, rfl, trivial⟩, by ((try clear S); (try clear E); first | assumption | omega | rfl | (simp; done) | (simp_all; done) | (simp [List.take_add_one, *]; done) | grind [List.take_add_one]), by ((try clear S); (try clear E); first | assumption | omega | rfl | (simp; done) | (simp_all; done) | (simp [List.take_add_one, *]; done) | grind [List.take_add_one]), by ((try clear S); (try clear E); first | assumption | omega | rfl | (simp; done) | (simp_all; done) | (simp [List.take_add_one, *]; done) | grind [List.take_add_one])⟩, by omega⟩
    · replace hc_3 := of_decide_eq_false hc_3
      refine WP_exit ?_
      refine T_x ?_
      refine T_x ?_
      refine B_x ?_
      refine T_n ?_
      refine WP_seq ?_
      refine WP_region ?_
      refine S_v E rfl (R_assign E rfl) rfl ?_
      clear E a; intro a E
      refine WL_nil ?_
      refine T_n ?_
      refine WP_ret ?_
      exact F_ret1 E Tryz.results19 rfl ⟨_, rfl, M_2, hM_2, (bT (by ((try clear S); (try clear E); first | assumption | omega | rfl | (simp; done) | (simp_all; done) | (simp [List.take_add_one, *]; done) | grind [List.take_add_one]))), S⟩

set_option maxRecDepth 100000 in
set_option maxHeartbeats 4000000 in
theorem lo_Intersect {M : Hp} {v0 : Value} {l0 : List (List Int)} (h0 : RdII M v0 l0) (hb : ∀ x ∈ l0, x.length ≤ 1000000000) :
    Pu Tryz.prog (.func (.func 49) #[] #[]) M [v0] (fun r M' => RdI M' r (meetF (fun x => x) l0)) := by
  refine Pu_enter Tryz.func49 rfl Tryz.ntmps49 rfl Tryz.call49 ?_
  intro a w M1 H hM1 S E
  replace h0 := h0.le hM1
  have b0 := h0.bound
  refine WP_seq ?_
  refine WP_region ?_
  refine S_v E rfl (R_assign E rfl) rfl ?_
  clear E a; intro a E
  refine WL_nil ?_
  refine T_n ?_
  refine WP_seq ?_
  refine WP_seq ?_
  refine WP_region ?_
  refine S_v E rfl (R_move E rfl) rfl ?_
  clear E a; intro a E
  refine S_v E rfl (R_lenV E rfl T36 h0.len) rfl ?_
  clear E a; intro a E
  refine S_v E rfl (R_eql E rfl rfl) rfl ?_
  clear E a; intro a E
  refine WL_nil ?_
  refine T_n ?_
  refine WP_cond E rfl (fun hc_1 => ?_) (fun hc_1 => ?_)
  · replace hc_1 := of_decide_eq_true hc_1
    refine WP_seq ?_
    refine WP_region ?_
    refine S_x (X_buildI (ys := []) E S rfl T22 rfl rfl rfl ?_)
    clear E a S; rintro a w v_2 E S
    refine S_v E rfl (R_assign E rfl) rfl ?_
    clear E a; intro a E
    refine WL_nil ?_
    refine T_n ?_
    refine WP_ret ?_
    refine T_r ?_
    have S0 := S; clear S
    obtain ⟨M_3, hM_3, hz_4, S⟩ := S0.freezeI (by (first | omega | (simp; omega) | (simp; done) | (have h9 := isc_len (fun x => x) ((l0.getD 0 []).take i) (sjI (fun x => x) l0 j); have h8 := getD_total l0 0 _ hb; simp only [List.length_take] at h9; omega)))
    clear S0
    replace h0 := h0.le hM_3
    exact F_ret1 E Tryz.results49 rfl ⟨_, rfl, M_3, hM_3, (by rw [show (meetF (fun x => x) l0) = ([] : List Int) from by first | (have e := List.eq_nil_of_length_eq_zero (l := l0) (by omega); subst e; rfl) | (rw [List.take_of_length_le (by rw [at_get (n := 0) (by assumption) rfl]; omega)]; (first | refine (meet_end (f := fun x => x) (ll := l0) (by omega) ?_ _).symm | refine meet_end (f := fun x => x) (ll := l0) (by omega) ?_ _); (first | (left; omega) | (right; exact bm_nil (f := fun _ => false) (by first | assumption | omega))))]; exact hz_4), S⟩
  · replace hc_1 := of_decide_eq_false hc_1
    refine WP_skip ?_
    refine T_n ?_
    refine WP_seq ?_
    refine WP_region ?_
    refine S_v E rfl (R_move E rfl) rfl ?_
    clear E a; intro a E
    refine S_v E rfl (R_move E rfl) rfl ?_
    clear E a; intro a E
    refine S_v E rfl (R_lenV E rfl T36 h0.len) rfl ?_
    clear E a; intro a E
    refine S_v E rfl (R_subx (m := (((l0).length - 1 : Nat) : Int)) E rfl rfl (by omega) (by omega)) rfl ?_
    clear E a; intro a E
    obtain ⟨x_5, hx_5⟩ : ∃ x, (l0)[(l0).length - 1]? = some x := ⟨_, List.getElem?_eq_getElem (by first | omega | (simp; done) | (simp; omega) | (simp_all; omega))⟩
    obtain ⟨p_6, u_7, hp_6, qp_6, hu_7⟩ := h0.at hx_5
    have bu_7 := hu_7.bound
    refine S_v E rfl (R_idx E rfl rfl T36 hp_6 rfl) rfl ?_
    clear E a; intro a E
    refine S_v E rfl (R_loadM E rfl Tryz.isAgg22 S.imm qp_6) rfl ?_
    clear E a; intro a E
    refine S_v E rfl (R_assign E rfl) rfl ?_
    clear E a; intro a E
    refine WL_nil ?_
    refine T_n ?_
    refine WP_seq ?_
    refine WP_region ?_
    refine S_v E rfl (R_move E rfl) rfl ?_
    clear E a; intro a E
    refine S_v E rfl (R_lenV E rfl T22 hu_7.len) rfl ?_
    clear E a; intro a E
    refine S_x (X_makeMapR E S rfl MT106 rfl ?_)
    clear E a S; rintro a w b_8 E S
    replace S : St w M1 (OwnE Value.bool b_8 ([] : List (Int × Bool)) :: _) := S
    refine S_v E rfl (R_assign E rfl) rfl ?_
    clear E a; intro a E
    refine WL_nil ?_
    refine T_n ?_
    refine WP_seq ?_
    refine WP_seq ?_
    refine WP_region ?_
    refine S_v E rfl (R_move E rfl) rfl ?_
    clear E a; intro a E
    refine S_v E rfl (R_lenV E rfl T22 hu_7.len) rfl ?_
    clear E a; intro a E
    refine S_v E rfl (R_move E rfl) rfl ?_
    clear E a; intro a E
    refine WL_nil ?_
    refine T_n ?_
    refine WP_block ?_
    replace S := S.reM (L' := (encE Value.bool (bmap (keyL (((l0.getD (l0.length - 1) []).take 0).map (fun x => x))) (fun _ => false)))) (congrArg (encE Value.bool) (show ([] : List (Int × Bool)) = bmap (keyL (((l0.getD (l0.length - 1) []).take 0).map (fun x => x))) (fun _ => false) by first | (unfold bmap; simp [keyL]; done) | exact ad_new (fun x => x) (by assumption) (at_get (n := l0.length - 1) (by assumption) (by omega))))
    refine WP_loop (γ := Nat) (fun (k : Nat) a w => ∃ (M_9 : Hp), Hp.le M1 M_9 ∧ St w M_9 (OwnE Value.bool b_8 (bmap (keyL (((l0.getD (l0.length - 1) []).take k).map (fun x => x))) (fun _ => false)) :: H) ∧ Env a 110 [] [(0, v0), (4, .map (some b_8)), (32, u_7), (33, .int .i64 (((x_5).length : Nat) : Int)), (34, .int .i64 ((k : Nat) : Int))] ∧ (k ≤ (x_5).length)) (fun k => ((x_5).length) - k) 0 ⟨M1, Hp.le.refl _, S, E.keep ⟨rfl, rfl, rfl, rfl, rfl, trivial⟩, by ((try clear S); (try clear E); first | assumption | omega | rfl | (simp; done) | (simp_all; done) | (simp [List.take_add_one, *]; done) | grind [List.take_add_one])⟩ ?_
    try clear E
    try clear S
    try clear a
    try clear w
    rintro k a w ⟨M_9, hM_9, S, E, hL0_0⟩
    replace h0 := h0.le hM_9
    replace hu_7 := hu_7.le hM_9
    refine WP_seq ?_
    refine WP_region ?_
    refine S_v E rfl (R_lss E rfl rfl) rfl ?_
    clear E a; intro a E
    refine WL_nil ?_
    refine T_n ?_
    refine WP_seq ?_
    refine WP_cond E rfl (fun hc_10 => ?_) (fun hc_10 => ?_)
    · replace hc_10 := of_decide_eq_true hc_10
      refine WP_skip ?_
      refine T_n ?_
      refine WP_seq ?_
      refine WP_block ?_
      refine WP_seq ?_
      refine WP_region ?_
      obtain ⟨x_11, hx_11⟩ : ∃ x, (x_5)[k]? = some x := ⟨_, List.getElem?_eq_getElem (by first | omega | (simp; done) | (simp; omega) | (simp_all; omega))⟩
      obtain ⟨p_12, hp_12, qp_12⟩ := hu_7.at hx_11
      refine S_v E rfl (R_idx E rfl rfl T22 hp_12 rfl) rfl ?_
      clear E a; intro a E
      refine S_v E rfl (R_loadM E rfl Tryz.isAgg3 S.imm qp_12) rfl ?_
      clear E a; intro a E
      refine S_v E rfl (R_assign E rfl) rfl ?_
      clear E a; intro a E
      refine WL_nil ?_
      refine T_n ?_
      refine WP_region ?_
      refine S_v E rfl (R_move E rfl) rfl ?_
      clear E a; intro a E
      refine S_v E rfl (R_move E rfl) rfl ?_
      clear E a; intro a E
      refine S_x0 (X_updateE (vf := Value.bool) (u := false) E S MT106 rfl rfl rfl ?_)
      clear E a S; rintro a w E S
      refine WL_nil ?_
      refine B_n ?_
      refine T_n ?_
      refine WP_region ?_
      refine S_v E rfl (R_addx (m := ((k + 1 : Nat) : Int)) E rfl rfl (by omega) (by omega)) rfl ?_
      clear E a; intro a E
      refine S_v E rfl (R_move E rfl) rfl ?_
      clear E a; intro a E
      refine WL_nil ?_
      refine T_n ?_
      replace S := S.reM (L' := (encE Value.bool (bmap (keyL (((l0.getD (l0.length - 1) []).take (k + 1)).map (fun x => x))) (fun _ => false)))) (congrArg (encE Value.bool) (show putK (bmap (keyL (((l0.getD (l0.length - 1) []).take k).map (fun x => x))) (fun _ => false)) x_11 false = bmap (keyL (((l0.getD (l0.length - 1) []).take (k + 1)).map (fun x => x))) (fun _ => false) by first | (unfold bmap; simp [keyL]; done) | exact ad_new (fun x => x) (by assumption) (at_get (n := l0.length - 1) (by assumption) (by omega))))
      exact ⟨k + 1, ⟨M_9, hM_9, S, E.keep ⟨rfl, rfl, rfl, rfl, rfl, trivial⟩, by ((try clear S); (try clear E); first | assumption | omega | rfl | (simp; done) | (simp_all; done) | (simp [List.take_add_one, *]; done) | grind [List.take_add_one])⟩, by omega⟩
    · replace hc_10 := of_decide_eq_false hc_10
      refine WP_exit ?_
      refine T_x ?_
      refine T_x ?_
      refine B_x ?_
      refine T_n ?_
      refine WP_seq ?_
      refine WP_seq ?_
      refine WP_region ?_
      refine S_v E rfl (R_move E rfl) rfl ?_
      clear E a; intro a E
      refine S_v E rfl (R_lenV E rfl T36 h0.len) rfl ?_
      clear E a; intro a E
      refine S_v E rfl (R_subx (m := (((l0).length : Nat) : Int) - 2) E rfl rfl (by omega) (by omega)) rfl ?_
      clear E a; intro a E
      refine S_v E rfl (R_assign E rfl) rfl ?_
      clear E a; intro a E
      refine WL_nil ?_
      refine T_n ?_
      refine WP_block ?_
      replace S := S.reM (L' := (encE Value.bool (bmap (sjI (fun x => x) l0 0) (fun _ => false)))) (congrArg (encE Value.bool) (show bmap (keyL (((l0.getD (l0.length - 1) []).take k).map (fun x => x))) (fun _ => false) = bmap (sjI (fun x => x) l0 0) (fun _ => false) by first | (rw [(at_get (n := l0.length - 1) (by assumption) (by omega)), List.take_of_length_le (by omega)]; show _ = bmap (keyL _) _; rw [(at_get (n := l0.length - 1) (by assumption) (by omega))]; done) | (rw [sd_end (by assumption)]; rfl)))
      refine WP_loop (γ := Nat) (fun (j : Nat) a w => ∃ (M_13 : Hp), Hp.le M_9 M_13 ∧ St w M_13 (OwnE Value.bool b_8 (bmap (sjI (fun x => x) l0 j) (fun _ => false)) :: H) ∧ Env a 110 [] [(0, v0), (4, .map (some b_8)), (7, .int .i64 ((l0.length : Int) - 2 - (j : Int)))] ∧ (j ≤ l0.length - 2)) (fun j => l0.length - j) 0 ⟨M_9, Hp.le.refl _, S, E.keep ⟨rfl, rfl, look_int (i := (((l0).length : Nat) : Int) - 2) rfl (by (omega)), trivial⟩, (by omega)⟩ ?_
      try clear E
      try clear S
      try clear a
      try clear w
      rintro j a w ⟨M_13, hM_13, S, E, hL1_0⟩
      replace h0 := h0.le hM_13
      replace hu_7 := hu_7.le hM_13
      refine WP_seq ?_
      refine WP_seq ?_
      refine WP_region ?_
      refine S_v E rfl (R_move E rfl) rfl ?_
      clear E a; intro a E
      refine S_v E rfl (R_gtr E rfl rfl) rfl ?_
      clear E a; intro a E
      refine S_v E rfl (R_move E rfl) rfl ?_
      clear E a; intro a E
      refine split_bool (decide (0 < (l0.length : Int) - 2 - (j : Int))) (fun hc_14 => ?_) (fun hc_14 => ?_)
      · replace E := E.val (t := 45) rfl hc_14
        replace E := E.val (t := 46) rfl hc_14
        replace hc_14 := of_decide_eq_true hc_14
        refine WL_guard_yes E rfl rfl ?_
        refine S_v E rfl (R_move E rfl) rfl ?_
        clear E a; intro a E
        refine WL_guard_yes E rfl rfl ?_
        refine S_v E rfl ((R_lenO E S MT106 rfl).trans (by rw [encE_len])) rfl ?_
        clear E a; intro a E
        refine WL_guard_yes E rfl rfl ?_
        refine S_v E rfl (R_neq E rfl rfl) rfl ?_
        clear E a; intro a E
        refine S_v E rfl (R_pickT E rfl rfl) rfl ?_
        clear E a; intro a E
        refine WL_nil ?_
        refine T_n ?_
        refine WP_cond E rfl (fun hc_15 => ?_) (fun hc_15 => ?_)
        · replace hc_15 := of_decide_eq_true hc_15
          refine WP_skip ?_
          refine T_n ?_
          refine WP_seq ?_
          refine WP_block ?_
          refine WP_seq ?_
          refine WP_seq ?_
          refine WP_region ?_
          refine S_v E rfl (R_move E rfl) rfl ?_
          clear E a; intro a E
          refine S_v E rfl (R_move E rfl) rfl ?_
          clear E a; intro a E
          obtain ⟨x_16, hx_16⟩ : ∃ x, (l0)[((l0.length : Int) - 2 - (j : Int)).toNat]? = some x := ⟨_, List.getElem?_eq_getElem (by first | omega | (simp; done) | (simp; omega) | (simp_all; omega))⟩
          obtain ⟨p_17, u_18, hp_17, qp_17, hu_18⟩ := h0.at hx_16
          have bu_18 := hu_18.bound
          refine S_v E rfl (R_idx E rfl rfl T36 hp_17 (by omega)) rfl ?_
          clear E a; intro a E
          refine S_v E rfl (R_loadM E rfl Tryz.isAgg22 S.imm qp_17) rfl ?_
          clear E a; intro a E
          refine S_v E rfl (R_lenV E rfl T22 hu_18.len) rfl ?_
          clear E a; intro a E
          refine S_v E rfl (R_move E rfl) rfl ?_
          clear E a; intro a E
          refine WL_nil ?_
          refine T_n ?_
          refine WP_block ?_
          replace S := S.reM (L' := (encE Value.bool (bmap (sjI (fun x => x) l0 j) (mkd (((l0.getD (l0.length - 2 - j) []).take 0).map (fun x => x)))))) (congrArg (encE Value.bool) (show bmap (sjI (fun x => x) l0 j) (fun _ => false) = bmap (sjI (fun x => x) l0 j) (mkd (((l0.getD (l0.length - 2 - j) []).take 0).map (fun x => x))) by first | (rw [List.take_zero, List.map_nil, mk_start]; done) | (refine at_yes (fun x => x) (sj_nodup _ _ _) (by assumption) (at_get (n := l0.length - 2 - j) (by assumption) (by omega)) ?_; assumption) | (refine at_no (fun x => x) (by assumption) (at_get (n := l0.length - 2 - j) (by assumption) (by omega)) ?_; assumption)))
          refine WP_loop (γ := Nat) (fun (m : Nat) a w => ∃ (M_19 : Hp), Hp.le M_13 M_19 ∧ St w M_19 (OwnE Value.bool b_8 (bmap (sjI (fun x => x) l0 j) (mkd (((l0.getD (l0.length - 2 - j) []).take m).map (fun x => x)))) :: H) ∧ Env a 110 [] [(0, v0), (4, .map (some b_8)), (7, .int .i64 ((l0.length : Int) - 2 - (j : Int))), (56, u_18), (57, .int .i64 (((x_16).length : Nat) : Int)), (58, .int .i64 ((m : Nat) : Int))] ∧ (m ≤ (x_16).length)) (fun m => ((x_16).length) - m) 0 ⟨M_13, Hp.le.refl _, S, E.keep ⟨rfl, rfl, rfl, rfl, rfl, rfl, trivial⟩, by ((try clear S); (try clear E); first | assumption | omega | rfl | (simp; done) | (simp_all; done) | (simp [List.take_add_one, *]; done) | grind [List.take_add_one])⟩ ?_
          try clear E
          try clear S
          try clear a
          try clear w
          rintro m a w ⟨M_19, hM_19, S, E, hL2_0⟩
          replace h0 := h0.le hM_19
          replace hu_7 := hu_7.le hM_19
          replace hu_18 := hu_18.le hM_19
          refine WP_seq ?_
          refine WP_region ?_
          refine S_v E rfl (R_lss E rfl rfl) rfl ?_
          clear E a; intro a E
          refine WL_nil ?_
          refine T_n ?_
          refine WP_seq ?_
          refine WP_cond E rfl (fun hc_20 => ?_) (fun hc_20 => ?_)
          · replace hc_20 := of_decide_eq_true hc_20
            refine WP_skip ?_
            refine T_n ?_
            refine WP_seq ?_
            refine WP_block ?_
            refine WP_seq ?_
            refine WP_region ?_
            obtain ⟨x_21, hx_21⟩ : ∃ x, (x_16)[m]? = some x := ⟨_, List.getElem?_eq_getElem (by first | omega | (simp; done) | (simp; omega) | (simp_all; omega))⟩
            obtain ⟨p_22, hp_22, qp_22⟩ := hu_18.at hx_21
            refine S_v E rfl (R_idx E rfl rfl T22 hp_22 rfl) rfl ?_
            clear E a; intro a E
            refine S_v E rfl (R_loadM E rfl Tryz.isAgg3 S.imm qp_22) rfl ?_
            clear E a; intro a E
            refine S_v E rfl (R_assign E rfl) rfl ?_
            clear E a; intro a E
            refine WL_nil ?_
            refine T_n ?_
            refine WP_seq ?_
            refine WP_region ?_
            refine S_v E rfl (R_move E rfl) rfl ?_
            clear E a; intro a E
            refine S_v E rfl (R_move E rfl) rfl ?_
            clear E a; intro a E
            refine S_x (X_lookupE (vf := Value.bool) (zb := false) E S rfl MT106 rfl rfl ?_)
            clear E a S; rintro a w E S
            replace S : St w M_19 (OwnE Value.bool b_8 (bmap (sjI (fun x => x) l0 j) (mkd (((l0.getD (l0.length - 2 - j) []).take m).map (fun x => x)))) :: _) := S
            refine S_v E rfl (R_move E rfl) rfl ?_
            clear E a; intro a E
            refine S_v E rfl (R_extract E rfl rfl) rfl ?_
            clear E a; intro a E
            refine S_v E rfl (R_extract E rfl rfl) rfl ?_
            clear E a; intro a E
            refine S_v E rfl (R_assign E rfl) rfl ?_
            clear E a; intro a E
            refine S_v E rfl (R_assign E rfl) rfl ?_
            clear E a; intro a E
            refine WL_nil ?_
            refine T_n ?_
            refine WP_seq ?_
            refine WP_region ?_
            refine S_v E rfl (R_move E rfl) rfl ?_
            clear E a; intro a E
            refine WL_nil ?_
            refine T_n ?_
            refine WP_cond E rfl (fun hc_23 => ?_) (fun hc_23 => ?_)
            · refine WP_region ?_
              refine S_v E rfl (R_move E rfl) rfl ?_
              clear E a; intro a E
              refine S_v E rfl (R_move E rfl) rfl ?_
              clear E a; intro a E
              refine S_x0 (X_updateE (vf := Value.bool) (u := true) E S MT106 rfl rfl rfl ?_)
              clear E a S; rintro a w E S
              refine WL_nil ?_
              refine B_n ?_
              refine T_n ?_
              refine WP_region ?_
              refine S_v E rfl (R_addx (m := ((m + 1 : Nat) : Int)) E rfl rfl (by omega) (by omega)) rfl ?_
              clear E a; intro a E
              refine S_v E rfl (R_move E rfl) rfl ?_
              clear E a; intro a E
              refine WL_nil ?_
              refine T_n ?_
              replace S := S.reM (L' := (encE Value.bool (bmap (sjI (fun x => x) l0 j) (mkd (((l0.getD (l0.length - 2 - j) []).take (m + 1)).map (fun x => x)))))) (congrArg (encE Value.bool) (show putK (bmap (sjI (fun x => x) l0 j) (mkd (((l0.getD (l0.length - 2 - j) []).take m).map (fun x => x)))) x_21 true = bmap (sjI (fun x => x) l0 j) (mkd (((l0.getD (l0.length - 2 - j) []).take (m + 1)).map (fun x => x))) by first | (rw [List.take_zero, List.map_nil, mk_start]; done) | (refine at_yes (fun x => x) (sj_nodup _ _ _) (by assumption) (at_get (n := l0.length - 2 - j) (by assumption) (by omega)) ?_; assumption) | (refine at_no (fun x => x) (by assumption) (at_get (n := l0.length - 2 - j) (by assumption) (by omega)) ?_; assumption)))
              exact ⟨m + 1, ⟨M_19, hM_19, S, E.keep ⟨rfl, rfl, rfl, rfl, rfl, rfl, trivial⟩, by ((try clear S); (try clear E); first | assumption | omega | rfl | (simp; done) | (simp_all; done) | (simp [List.take_add_one, *]; done) | grind [List.take_add_one])⟩, by omega⟩
            · refine WP_skip ?_
              refine B_n ?_
              refine T_n ?_
              refine WP_region ?_
              refine S_v E rfl (R_addx (m := ((m + 1 : Nat) : Int)) E rfl rfl (by omega) (by omega)) rfl ?_
              clear E a; intro a E
              refine S_v E rfl (R_move E rfl) rfl ?_
              clear E a; intro a E
              refine WL_nil ?_
              refine T_n ?_
              replace S := S.reM (L' := (encE Value.bool (bmap (sjI (fun x => x) l0 j) (mkd (((l0.getD (l0.length - 2 - j) []).take (m + 1)).map (fun x => x)))))) (congrArg (encE Value.bool) (show bmap (sjI (fun x => x) l0 j) (mkd (((l0.getD (l0.length - 2 - j) []).take m).map (fun x => x))) = bmap (sjI (fun x => x) l0 j) (mkd (((l0.getD (l0.length - 2 - j) []).take (m + 1)).map (fun x => x))) by first | (rw [List.take_zero, List.map_nil, mk_start]; done) | (refine at_yes (fun x => x) (sj_nodup _ _ _) (by assumption) (at_get (n := l0.length - 2 - j) (by assumption) (by omega)) ?_; assumption) | (refine at_no (fun x => x) (by assumption) (at_get (n := l0.length - 2 - j) (by assumption) (by omega)) ?_; assumption)))
              exact ⟨m + 1, ⟨M_19, hM_19, S, E.keep ⟨rfl, rfl, rfl, rfl, rfl, rfl, trivial⟩, by ((try clear S); (try clear E); first | assumption | omega | rfl | (simp; done) | (simp_all; done) | (simp [List.take_add_one, *]; done) | grind [List.take_add_one])⟩, by omega⟩
          · replace hc_20 := of_decide_eq_false hc_20
            refine WP_exit ?_
            refine T_x ?_
            refine T_x ?_
            refine B_x ?_
            refine T_n ?_
            refine WP_seq ?_
            refine WP_region ?_
            refine S_v E rfl (R_move E rfl) rfl ?_
            clear E a; intro a E
            refine S_x (X_rangeW E S rfl MT106 rfl ?_)
            clear E a S; rintro a w i_24 E S
            replace S : St w M_19 (ItW b_8 i_24 (encE Value.bool (bmap (sjI (fun x => x) l0 j) (mkd (((l0.getD (l0.length - 2 - j) []).take m).map (fun x => x))))) ([] : List Int) none :: _) := S
            refine WL_nil ?_
            refine T_n ?_
            refine WP_block ?_
            replace S := S.reW (L' := (encE Value.bool (stepD (sjI (fun x => x) l0 j) (mkd ((l0.getD (l0.length - 2 - j) []).map (fun x => x))) []))) (D' := []) (congrArg (encE Value.bool) (show bmap (sjI (fun x => x) l0 j) (mkd (((l0.getD (l0.length - 2 - j) []).take m).map (fun x => x))) = stepD (sjI (fun x => x) l0 j) (mkd ((l0.getD (l0.length - 2 - j) []).map (fun x => x))) [] by first | (rw [(at_get (n := l0.length - 2 - j) (by assumption) (by omega)), List.take_of_length_le (by omega), sd_start]; done) | (refine sd_yes (sj_nodup _ _ _) (by assumption) (by assumption) ?_; first | rfl | assumption) | (refine sd_nof (by assumption) (by assumption) ?_; first | rfl | assumption))) (show ([] : List Int) = [] by first | rfl | (simp; done))
            refine WP_loop (γ := List Int) (fun (dd : List Int) a w => ∃ (M_25 : Hp), Hp.le M_19 M_25 ∧ St w M_25 (ItW b_8 i_24 (encE Value.bool (stepD (sjI (fun x => x) l0 j) (mkd ((l0.getD (l0.length - 2 - j) []).map (fun x => x))) dd)) dd none :: H) ∧ Env a 110 [] [(0, v0), (4, .map (some b_8)), (7, .int .i64 ((l0.length : Int) - 2 - (j : Int))), (73, .pointer (some ⟨i_24, 0, none⟩))] ∧ (dd.Nodup) ∧ (∀ z ∈ dd, z ∈ sjI (fun x => x) l0 j)) (fun dd => (sjI (fun x => x) l0 j).length - dd.length) [] ⟨M_19, Hp.le.refl _, S, E.keep ⟨rfl, rfl, rfl, rfl, trivial⟩, (by simp), (by simp)⟩ ?_
            try clear E
            try clear S
            try clear a
            try clear w
            rintro dd a w ⟨M_25, hM_25, S, E, hL3_0, hL3_1⟩
            replace h0 := h0.le hM_25
            replace hu_7 := hu_7.le hM_25
            replace hu_18 := hu_18.le hM_25
            refine WP_seq ?_
            refine WP_region ?_
            refine S_x (X_nextWE (vf := Value.bool) E S rfl rfl ?_ ?_)
            · clear E a S; rintro a E hpm_26 S
              refine S_v E rfl (R_extract E rfl rfl) rfl ?_
              clear E a; intro a E
              refine WL_nil ?_
              refine T_n ?_
              refine WP_seq ?_
              refine WP_condF E rfl rfl ?_
              refine WP_exit ?_
              refine T_x ?_
              refine T_x ?_
              refine B_x ?_
              refine B_n ?_
              refine T_n ?_
              refine WP_region ?_
              refine S_v E rfl (R_move E rfl) rfl ?_
              clear E a; intro a E
              refine S_v E rfl (R_subx (m := ((l0.length : Int) - 2 - (j : Int)) - 1) E rfl rfl (by omega) (by omega)) rfl ?_
              clear E a; intro a E
              refine S_v E rfl (R_assign E rfl) rfl ?_
              clear E a; intro a E
              refine WL_nil ?_
              refine T_n ?_
              replace S := S.reM (L' := (encE Value.bool (bmap (sjI (fun x => x) l0 (j + 1)) (fun _ => false)))) (congrArg (encE Value.bool) (show stepD (sjI (fun x => x) l0 j) (mkd ((l0.getD (l0.length - 2 - j) []).map (fun x => x))) dd = bmap (sjI (fun x => x) l0 (j + 1)) (fun _ => false) by first | (rw [(at_get (n := l0.length - 1) (by assumption) (by omega)), List.take_of_length_le (by omega)]; show _ = bmap (keyL _) _; rw [(at_get (n := l0.length - 1) (by assumption) (by omega))]; done) | (rw [sd_end (by assumption)]; rfl)))
              exact ⟨j + 1, ⟨M_25, (hM_13.trans (hM_19.trans hM_25)), S, E.keep ⟨rfl, rfl, look_int (i := ((l0.length : Int) - 2 - (j : Int)) - 1) rfl (by (omega)), trivial⟩, (by omega)⟩, by omega⟩
            · clear E a S w; rintro a w k_27 u_29 E hk_28 hk_28n S
              refine S_v E rfl (R_extract E rfl rfl) rfl ?_
              clear E a; intro a E
              refine WL_nil ?_
              refine T_n ?_
              refine WP_seq ?_
              refine WP_condT E rfl rfl ?_
              refine WP_skip ?_
              refine T_n ?_
              refine WP_block ?_
              refine WP_seq ?_
              refine WP_region ?_
              refine S_v E rfl (R_entryW E S rfl) rfl ?_
              clear E a; intro a E
              refine S_v E rfl (R_extract E rfl rfl) rfl ?_
              clear E a; intro a E
              refine S_v E rfl (R_extract E rfl rfl) rfl ?_
              clear E a; intro a E
              refine S_v E rfl (R_assign E rfl) rfl ?_
              clear E a; intro a E
              refine S_v E rfl (R_assign E rfl) rfl ?_
              clear E a; intro a E
              refine WL_nil ?_
              refine T_n ?_
              refine WP_seq ?_
              refine WP_region ?_
              refine S_v E rfl (R_move E rfl) rfl ?_
              clear E a; intro a E
              refine WL_nil ?_
              refine T_n ?_
              refine WP_cond E rfl (fun hc_30 => ?_) (fun hc_30 => ?_)
              · refine WP_region ?_
                refine S_v E rfl (R_move E rfl) rfl ?_
                clear E a; intro a E
                refine S_v E rfl (R_move E rfl) rfl ?_
                clear E a; intro a E
                refine S_x0 (X_updateWE (vf := Value.bool) (u := false) E S MT106 rfl rfl rfl (by exact List.mem_map_of_mem (f := Prod.fst) (by assumption)) ?_)
                clear E a S; rintro a w E S
                refine WL_nil ?_
                refine B_n ?_
                refine T_n ?_
                replace S := S.reW (L' := (encE Value.bool (stepD (sjI (fun x => x) l0 j) (mkd ((l0.getD (l0.length - 2 - j) []).map (fun x => x))) (dd ++ [k_27])))) (D' := (dd ++ [k_27])) (congrArg (encE Value.bool) (show putK (stepD (sjI (fun x => x) l0 j) (mkd ((l0.getD (l0.length - 2 - j) []).map (fun x => x))) dd) k_27 false = stepD (sjI (fun x => x) l0 j) (mkd ((l0.getD (l0.length - 2 - j) []).map (fun x => x))) (dd ++ [k_27]) by first | (rw [(at_get (n := l0.length - 2 - j) (by assumption) (by omega)), List.take_of_length_le (by omega), sd_start]; done) | (refine sd_yes (sj_nodup _ _ _) (by assumption) (by assumption) ?_; first | rfl | assumption) | (refine sd_nof (by assumption) (by assumption) ?_; first | rfl | assumption))) (show dd ++ [k_27] = (dd ++ [k_27]) by first | rfl | (simp; done))
                exact ⟨(dd ++ [k_27]), ⟨M_25, hM_25, S, E.keep ⟨rfl, rfl, rfl, rfl, trivial⟩, (by exact told_nodup (by assumption) (by assumption)), (by exact told_sub (by assumption) (by assumption) (by assumption))⟩, (by have hlt := told_lt (by assumption) (by assumption) (by assumption) (by assumption); simp; omega)⟩
              · refine WP_region ?_
                refine S_v E rfl (R_move E rfl) rfl ?_
                clear E a; intro a E
                refine S_v E rfl (R_move E rfl) rfl ?_
                clear E a; intro a E
                refine S_x0 (X_delete0WE (vf := Value.bool) E S MT106 rfl rfl ?_)
                clear E a S; rintro a w E S
                refine WL_nil ?_
                refine B_n ?_
                refine T_n ?_
                replace S := S.reW (L' := (encE Value.bool (stepD (sjI (fun x => x) l0 j) (mkd ((l0.getD (l0.length - 2 - j) []).map (fun x => x))) (dd ++ [k_27])))) (D' := (dd ++ [k_27])) (congrArg (encE Value.bool) (show delK (stepD (sjI (fun x => x) l0 j) (mkd ((l0.getD (l0.length - 2 - j) []).map (fun x => x))) dd) k_27 = stepD (sjI (fun x => x) l0 j) (mkd ((l0.getD (l0.length - 2 - j) []).map (fun x => x))) (dd ++ [k_27]) by first | (rw [(at_get (n := l0.length - 2 - j) (by assumption) (by omega)), List.take_of_length_le (by omega), sd_start]; done) | (refine sd_yes (sj_nodup _ _ _) (by assumption) (by assumption) ?_; first | rfl | assumption) | (refine sd_nof (by assumption) (by assumption) ?_; first | rfl | assumption))) (show dd ++ [k_27] = (dd ++ [k_27]) by first | rfl | (simp; done))
                exact ⟨(dd ++ [k_27]), ⟨M_25, hM_25, S, E.keep ⟨rfl, rfl, rfl, rfl, trivial⟩, (by exact told_nodup (by assumption) (by assumption)), (by exact told_sub (by assumption) (by assumption) (by assumption))⟩, (by have hlt := told_lt (by assumption) (by assumption) (by assumption) (by assumption); simp; omega)⟩
        · replace hc_15 := of_decide_eq_false hc_15
          refine WP_exit ?_
          refine T_x ?_
          refine T_x ?_
          refine B_x ?_
          refine T_n ?_
          refine WP_seq ?_
          refine WP_region ?_
          refine S_v E rfl (R_move E rfl) rfl ?_
          clear E a; intro a E
          refine S_v E rfl ((R_lenO E S MT106 rfl).trans (by rw [encE_len])) rfl ?_
          clear E a; intro a E
          refine S_x (X_make0 (k := (bmap (sjI (fun x => x) l0 j) (fun _ => false)).length) E S rfl rfl rfl T22 rfl (by omega) (by (have h9 := sj_len (fun x => x) l0 j; have h8 := getD_total l0 (l0.length - 1) _ hb; simp only [bm_len]; omega)) (by (have h9 := sj_len (fun x => x) l0 j; have h8 := getD_total l0 (l0.length - 1) _ hb; simp only [bm_len]; omega)) ?_)
          clear E a S; rintro a w v_31 E S
          replace S := S.made0
          refine S_v E rfl (R_assign E rfl) rfl ?_
          clear E a; intro a E
          refine WL_nil ?_
          refine T_n ?_
          refine WP_seq ?_
          refine WP_seq ?_
          refine WP_region ?_
          refine S_v E rfl (R_move E rfl) rfl ?_
          clear E a; intro a E
          obtain ⟨x_32, hx_32⟩ : ∃ x, (l0)[0]? = some x := ⟨_, List.getElem?_eq_getElem (by first | omega | (simp; done) | (simp; omega) | (simp_all; omega))⟩
          obtain ⟨p_33, u_34, hp_33, qp_33, hu_34⟩ := h0.at hx_32
          have bu_34 := hu_34.bound
          refine S_v E rfl (R_idx E rfl rfl T36 hp_33 (by omega)) rfl ?_
          clear E a; intro a E
          refine S_v E rfl (R_loadM E rfl Tryz.isAgg22 S.imm qp_33) rfl ?_
          clear E a; intro a E
          refine S_v E rfl (R_lenV E rfl T22 hu_34.len) rfl ?_
          clear E a; intro a E
          refine S_v E rfl (R_move E rfl) rfl ?_
          clear E a; intro a E
          refine WL_nil ?_
          refine T_n ?_
          refine WP_block ?_
          replace S := S.front1
          replace S := S.front1
          replace S := S.re1 (l' := iscI (fun x => x) (sjI (fun x => x) l0 j) ((l0.getD 0 []).take 0)) (by first | rfl | (rw [List.take_zero]; exact rs_start _ _) | exact rm_yes (fun x => x) (by assumption) (at_get (n := 0) (by assumption) rfl) | (refine rm_no (fun x => x) (by assumption) (at_get (n := 0) (by assumption) rfl) ?_; assumption) | (refine is_yes (fun x => x) (by assumption) (at_get (n := 0) (by assumption) rfl) ?_; assumption) | (refine is_no (fun x => x) (by assumption) (at_get (n := 0) (by assumption) rfl) ?_; assumption))
          replace S := S.front1
          replace S := S.reM (L' := (encE Value.bool (bmap (remI (fun x => x) (sjI (fun x => x) l0 j) ((l0.getD 0 []).take 0)) (fun _ => false)))) (congrArg (encE Value.bool) (show bmap (sjI (fun x => x) l0 j) (fun _ => false) = bmap (remI (fun x => x) (sjI (fun x => x) l0 j) ((l0.getD 0 []).take 0)) (fun _ => false) by first | rfl | (rw [List.take_zero]; exact rs_start _ _) | exact rm_yes (fun x => x) (by assumption) (at_get (n := 0) (by assumption) rfl) | (refine rm_no (fun x => x) (by assumption) (at_get (n := 0) (by assumption) rfl) ?_; assumption) | (refine is_yes (fun x => x) (by assumption) (at_get (n := 0) (by assumption) rfl) ?_; assumption) | (refine is_no (fun x => x) (by assumption) (at_get (n := 0) (by assumption) rfl) ?_; assumption)))
          refine WP_loop (γ := Nat) (fun (i : Nat) a w => ∃ (M_35 : Hp) (u14 : Value), Hp.le M_13 M_35 ∧ St w M_35 (OwnE Value.bool b_8 (bmap (remI (fun x => x) (sjI (fun x => x) l0 j) ((l0.getD 0 []).take i)) (fun _ => false)) :: OwnI 3 u14 (iscI (fun x => x) (sjI (fun x => x) l0 j) ((l0.getD 0 []).take i)) :: H) ∧ Env a 110 [] [(4, .map (some b_8)), (14, u14), (89, u_34), (90, .int .i64 (((x_32).length : Nat) : Int)), (91, .int .i64 ((i : Nat) : Int))] ∧ (i ≤ (l0.getD 0 []).length)) (fun i => (l0.getD 0 []).length - i) 0 ⟨M_13, _, Hp.le.refl _, S, E.keep ⟨rfl, rfl, rfl, rfl, rfl, trivial⟩, (by omega)⟩ ?_
          try clear E
          try clear S
          try clear a
          try clear w
          rintro i a w ⟨M_35, u14, hM_35, S, E, hL4_0⟩
          replace h0 := h0.le hM_35
          replace hu_7 := hu_7.le hM_35
          replace hu_34 := hu_34.le hM_35
          refine WP_seq ?_
          refine WP_region ?_
          refine S_v E rfl (R_lss E rfl rfl) rfl ?_
          clear E a; intro a E
          refine WL_nil ?_
          refine T_n ?_
          refine WP_seq ?_
          refine WP_cond E rfl (fun hc_36 => ?_) (fun hc_36 => ?_)
          · replace hc_36 := of_decide_eq_true hc_36
            refine WP_skip ?_
            refine T_n ?_
            refine WP_seq ?_
            refine WP_block ?_
            refine WP_seq ?_
            refine WP_region ?_
            obtain ⟨x_37, hx_37⟩ : ∃ x, (x_32)[i]? = some x := ⟨_, List.getElem?_eq_getElem (by first | omega | (simp; done) | (simp; omega) | (simp_all; omega))⟩
            obtain ⟨p_38, hp_38, qp_38⟩ := hu_34.at hx_37
            refine S_v E rfl (R_idx E rfl rfl T22 hp_38 rfl) rfl ?_
            clear E a; intro a E
            refine S_v E rfl (R_loadM E rfl Tryz.isAgg3 S.imm qp_38) rfl ?_
            clear E a; intro a E
            refine S_v E rfl (R_assign E rfl) rfl ?_
            clear E a; intro a E
            refine WL_nil ?_
            refine T_n ?_
            refine WP_seq ?_
            refine WP_region ?_
            refine S_v E rfl (R_move E rfl) rfl ?_
            clear E a; intro a E
            refine S_v E rfl (R_move E rfl) rfl ?_
            clear E a; intro a E
            refine S_x (X_lookupE (vf := Value.bool) (zb := false) E S rfl MT106 rfl rfl ?_)
            clear E a S; rintro a w E S
            replace S : St w M_35 (OwnE Value.bool b_8 (bmap (remI (fun x => x) (sjI (fun x => x) l0 j) ((l0.getD 0 []).take i)) (fun _ => false)) :: _) := S
            refine S_v E rfl (R_move E rfl) rfl ?_
            clear E a; intro a E
            refine S_v E rfl (R_extract E rfl rfl) rfl ?_
            clear E a; intro a E
            refine S_v E rfl (R_extract E rfl rfl) rfl ?_
            clear E a; intro a E
            refine S_v E rfl (R_assign E rfl) rfl ?_
            clear E a; intro a E
            refine S_v E rfl (R_assign E rfl) rfl ?_
            clear E a; intro a E
            refine WL_nil ?_
            refine T_n ?_
            refine WP_seq ?_
            refine WP_region ?_
            refine S_v E rfl (R_move E rfl) rfl ?_
            clear E a; intro a E
            refine WL_nil ?_
            refine T_n ?_
            refine WP_cond E rfl (fun hc_39 => ?_) (fun hc_39 => ?_)
            · refine WP_seq ?_
              refine WP_region ?_
              refine S_v E rfl (R_move E rfl) rfl ?_
              clear E a; intro a E
              refine S_v E rfl (R_move E rfl) rfl ?_
              clear E a; intro a E
              refine S_x (X_buildI (ys := [x_37]) E S rfl T22 rfl rfl rfl ?_)
              clear E a S; rintro a w v_40 E S
              replace S := S.front2
              replace S := S.front1
              refine S_x (X_appendB (xs := iscI (fun x => x) (sjI (fun x => x) l0 j) ((l0.getD 0 []).take i)) (ys := [x_37]) E S rfl rfl rfl T22 (by (have h9 := isc_len (fun x => x) ((l0.getD 0 []).take i) (sjI (fun x => x) l0 j); have h8 := getD_total l0 0 _ hb; simp only [List.length_take] at h9; simp only [List.length_cons, List.length_nil]; omega)) ?_)
              clear E a S; rintro a w v_41 E S
              refine S_v E rfl (R_assign E rfl) rfl ?_
              clear E a; intro a E
              refine WL_nil ?_
              refine T_n ?_
              refine WP_region ?_
              refine S_v E rfl (R_move E rfl) rfl ?_
              clear E a; intro a E
              refine S_v E rfl (R_move E rfl) rfl ?_
              clear E a; intro a E
              replace S := S.front1
              refine S_x0 (X_delete0E (vf := Value.bool) E S MT106 rfl rfl ?_)
              clear E a S; rintro a w E S
              refine WL_nil ?_
              refine B_n ?_
              refine T_n ?_
              refine WP_region ?_
              refine S_v E rfl (R_addx (m := ((i + 1 : Nat) : Int)) E rfl rfl (by omega) (by omega)) rfl ?_
              clear E a; intro a E
              refine S_v E rfl (R_move E rfl) rfl ?_
              clear E a; intro a E
              refine WL_nil ?_
              refine T_n ?_
              replace S := S.front1
              replace S := S.re1 (l' := iscI (fun x => x) (sjI (fun x => x) l0 j) ((l0.getD 0 []).take (i + 1))) (by first | rfl | (rw [List.take_zero]; exact rs_start _ _) | exact rm_yes (fun x => x) (by assumption) (at_get (n := 0) (by assumption) rfl) | (refine rm_no (fun x => x) (by assumption) (at_get (n := 0) (by assumption) rfl) ?_; assumption) | (refine is_yes (fun x => x) (by assumption) (at_get (n := 0) (by assumption) rfl) ?_; assumption) | (refine is_no (fun x => x) (by assumption) (at_get (n := 0) (by assumption) rfl) ?_; assumption))
              replace S := S.front1
              replace S := S.reM (L' := (encE Value.bool (bmap (remI (fun x => x) (sjI (fun x => x) l0 j) ((l0.getD 0 []).take (i + 1))) (fun _ => false)))) (congrArg (encE Value.bool) (show delK (bmap (remI (fun x => x) (sjI (fun x => x) l0 j) ((l0.getD 0 []).take i)) (fun _ => false)) x_37 = bmap (remI (fun x => x) (sjI (fun x => x) l0 j) ((l0.getD 0 []).take (i + 1))) (fun _ => false) by first | rfl | (rw [List.take_zero]; exact rs_start _ _) | exact rm_yes (fun x => x) (by assumption) (at_get (n := 0) (by assumption) rfl) | (refine rm_no (fun x => x) (by assumption) (at_get (n := 0) (by assumption) rfl) ?_; assumption) | (refine is_yes (fun x => x) (by assumption) (at_get (n := 0) (by assumption) rfl) ?_; assumption) | (refine is_no (fun x => x) (by assumption) (at_get (n := 0) (by assumption) rfl) ?_; assumption)))
              exact ⟨i + 1, ⟨M_35, _, hM_35, S, E.keep ⟨rfl, rfl, rfl, rfl, rfl, trivial⟩, (by rw [(at_get (n := 0) (by assumption) rfl)]; omega)⟩, (by rw [(at_get (n := 0) (by assumption) rfl)]; omega)⟩
            · refine WP_skip ?_
              refine B_n ?_
              refine T_n ?_
              refine WP_region ?_
              refine S_v E rfl (R_addx (m := ((i + 1 : Nat) : Int)) E rfl rfl (by omega) (by omega)) rfl ?_
              clear E a; intro a E
              refine S_v E rfl (R_move E rfl) rfl ?_
              clear E a; intro a E
              refine WL_nil ?_
              refine T_n ?_
              replace S := S.front1
              replace S := S.re1 (l' := iscI (fun x => x) (sjI (fun x => x) l0 j) ((l0.getD 0 []).take (i + 1))) (by first | rfl | (rw [List.take_zero]; exact rs_start _ _) | exact rm_yes (fun x => x) (by assumption) (at_get (n := 0) (by assumption) rfl) | (refine rm_no (fun x => x) (by assumption) (at_get (n := 0) (by assumption) rfl) ?_; assumption) | (refine is_yes (fun x => x) (by assumption) (at_get (n := 0) (by assumption) rfl) ?_; assumption) | (refine is_no (fun x => x) (by assumption) (at_get (n := 0) (by assumption) rfl) ?_; assumption))
              replace S := S.front1
              replace S := S.reM (L' := (encE Value.bool (bmap (remI (fun x => x) (sjI (fun x => x) l0 j) ((l0.getD 0 []).take (i + 1))) (fun _ => false)))) (congrArg (encE Value.bool) (show bmap (remI (fun x => x) (sjI (fun x => x) l0 j) ((l0.getD 0 []).take i)) (fun _ => false) = bmap (remI (fun x => x) (sjI (fun x => x) l0 j) ((l0.getD 0 []).take (i + 1))) (fun _ => false) by first | rfl | (rw [List.take_zero]; exact rs_start _ _) | exact rm_yes (fun x => x) (by assumption) (at_get (n := 0) (by assumption) rfl) | (refine rm_no (fun x => x) (by assumption) (at_get (n := 0) (by assumption) rfl) ?_; assumption) | (refine is_yes (fun x => x) (by assumption) (at_get (n := 0) (by assumption) rfl) ?_; assumption) | (refine is_no (fun x => x) (by assumption) (at_get (n := 0) (by assumption) rfl) ?_; assumption)))
              exact ⟨i + 1, ⟨M_35, _, hM_35, S, E.keep ⟨rfl, rfl, rfl, rfl, rfl, trivial⟩, (by rw [(at_get (n := 0) (by assumption) rfl)]; omega)⟩, (by rw [(at_get (n := 0) (by assumption) rfl)]; omega)⟩
          · replace hc_36 := of_decide_eq_false hc_36
            refine WP_exit ?_
            refine T_x ?_
            refine T_x ?_
            refine B_x ?_
            refine T_n ?_
            refine WP_seq ?_
            refine WP_region ?_
            refine S_v E rfl (R_move E rfl) rfl ?_
            clear E a; intro a E
            refine S_v E rfl (R_assign E rfl) rfl ?_
            clear E a; intro a E
            refine WL_nil ?_
            refine T_n ?_
            refine WP_ret ?_
            replace S := S.front1
            have S0 := S; clear S
            obtain ⟨M_42, hM_42, hz_43, S⟩ := S0.freezeI (by (first | omega | (simp; omega) | (simp; done) | (have h9 := isc_len (fun x => x) ((l0.getD 0 []).take i) (sjI (fun x => x) l0 j); have h8 := getD_total l0 0 _ hb; simp only [List.length_take] at h9; omega)))
            clear S0
            replace h0 := h0.le hM_42
            replace hu_7 := hu_7.le hM_42
            replace hu_34 := hu_34.le hM_42
            exact F_ret1 E Tryz.results49 rfl ⟨_, rfl, M_42, (hM_9.trans (hM_13.trans (hM_35.trans hM_42))), (by rw [show (meetF (fun x => x) l0) = (iscI (fun x => x) (sjI (fun x => x) l0 j) ((l0.getD 0 []).take i)) from by first | (have e := List.eq_nil_of_length_eq_zero (l := l0) (by omega); subst e; rfl) | (rw [List.take_of_length_le (by rw [at_get (n := 0) (by assumption) rfl]; omega)]; (first | refine (meet_end (f := fun x => x) (ll := l0) (by omega) ?_ _).symm | refine meet_end (f := fun x => x) (ll := l0) (by omega) ?_ _); (first | (left; omega) | (right; exact bm_nil (f := fun _ => false) (by first | assumption | omega))))]; exact hz_43), S.drop⟩
      · replace E := E.val (t := 45) rfl hc_14
        replace E := E.val (t := 46) rfl hc_14
        replace hc_14 := of_decide_eq_false hc_14
        refine WL_guard_no E rfl rfl rfl rfl fun a E => ?_
        refine WL_guard_no E rfl rfl rfl rfl fun a E => ?_
        refine WL_guard_no E rfl rfl rfl rfl fun a E => ?_
        refine S_v E rfl (R_pickF E rfl rfl) rfl ?_
        clear E a; intro a E
        refine WL_nil ?_
        refine T_n ?_
        refine WP_condF E rfl rfl ?_
        refine WP_exit ?_
        refine T_x ?_
        refine T_x ?_
        refine B_x ?_
        refine T_n ?_
        refine WP_seq ?_
        refine WP_region ?_
        refine S_v E rfl (R_move E rfl) rfl ?_
        clear E a; intro a E
        refine S_v E rfl ((R_lenO E S MT106 rfl).trans (by rw [encE_len])) rfl ?_
        clear E a; intro a E
        refine S_x (X_make0 (k := (bmap (sjI (fun x => x) l0 j) (fun _ => false)).length) E S rfl rfl rfl T22 rfl (by omega) (by (have h9 := sj_len (fun x => x) l0 j; have h8 := getD_total l0 (l0.length - 1) _ hb; simp only [bm_len]; omega)) (by (have h9 := sj_len (fun x => x) l0 j; have h8 := getD_total l0 (l0.length - 1) _ hb; simp only [bm_len]; omega)) ?_)
        clear E a S; rintro a w v_44 E S
        replace S := S.made0
        refine S_v E rfl (R_assign E rfl) rfl ?_
        clear E a; intro a E
        refine WL_nil ?_
        refine T_n ?_
        refine WP_seq ?_
        refine WP_seq ?_
        refine WP_region ?_
        refine S_v E rfl (R_move E rfl) rfl ?_
        clear E a; intro a E
        obtain ⟨x_45, hx_45⟩ : ∃ x, (l0)[0]? = some x := ⟨_, List.getElem?_eq_getElem (by first | omega | (simp; done) | (simp; omega) | (simp_all; omega))⟩
        obtain ⟨p_46, u_47, hp_46, qp_46, hu_47⟩ := h0.at hx_45
        have bu_47 := hu_47.bound
        refine S_v E rfl (R_idx E rfl rfl T36 hp_46 (by omega)) rfl ?_
        clear E a; intro a E
        refine S_v E rfl (R_loadM E rfl Tryz.isAgg22 S.imm qp_46) rfl ?_
        clear E a; intro a E
        refine S_v E rfl (R_lenV E rfl T22 hu_47.len) rfl ?_
        clear E a; intro a E
        refine S_v E rfl (R_move E rfl) rfl ?_
        clear E a; intro a E
        refine WL_nil ?_
        refine T_n ?_
        refine WP_block ?_
        replace S := S.front1
        replace S := S.front1
        replace S := S.re1 (l' := iscI (fun x => x) (sjI (fun x => x) l0 j) ((l0.getD 0 []).take 0)) (by first | rfl | (rw [List.take_zero]; exact rs_start _ _) | exact rm_yes (fun x => x) (by assumption) (at_get (n := 0) (by assumption) rfl) | (refine rm_no (fun x => x) (by assumption) (at_get (n := 0) (by assumption) rfl) ?_; assumption) | (refine is_yes (fun x => x) (by assumption) (at_get (n := 0) (by assumption) rfl) ?_; assumption) | (refine is_no (fun x => x) (by assumption) (at_get (n := 0) (by assumption) rfl) ?_; assumption))
        replace S := S.front1
        replace S := S.reM (L' := (encE Value.bool (bmap (remI (fun x => x) (sjI (fun x => x) l0 j) ((l0.getD 0 []).take 0)) (fun _ => false)))) (congrArg (encE Value.bool) (show bmap (sjI (fun x => x) l0 j) (fun _ => false) = bmap (remI (fun x => x) (sjI (fun x => x) l0 j) ((l0.getD 0 []).take 0)) (fun _ => false) by first | rfl | (rw [List.take_zero]; exact rs_start _ _) | exact rm_yes (fun x => x) (by assumption) (at_get (n := 0) (by assumption) rfl) | (refine rm_no (fun x => x) (by assumption) (at_get (n := 0) (by assumption) rfl) ?_; assumption) | (refine is_yes (fun x => x) (by assumption) (at_get (n := 0) (by assumption) rfl) ?_; assumption) | (refine is_no (fun x => x) (by assumption) (at_get (n := 0) (by assumption) rfl) ?_; assumption)))
        refine WP_loop (γ := Nat) (fun (i : Nat) a w => ∃ (M_48 : Hp) (u14 : Value), Hp.le M_13 M_48 ∧ St w M_48 (OwnE Value.bool b_8 (bmap (remI (fun x => x) (sjI (fun x => x) l0 j) ((l0.getD 0 []).take i)) (fun _ => false)) :: OwnI 3 u14 (iscI (fun x => x) (sjI (fun x => x) l0 j) ((l0.getD 0 []).take i)) :: H) ∧ Env a 110 [] [(4, .map (some b_8)), (14, u14), (89, u_47), (90, .int .i64 (((x_45).length : Nat) : Int)), (91, .int .i64 ((i : Nat) : Int))] ∧ (i ≤ (l0.getD 0 []).length)) (fun i => (l0.getD 0 []).length - i) 0 ⟨M_13, _, Hp.le.refl _, S, E.keep ⟨rfl, rfl, rfl, rfl, rfl, trivial⟩, (by omega)⟩ ?_
        try clear E
        try clear S
        try clear a
        try clear w
        rintro i a w ⟨M_48, u14, hM_48, S, E, hL4_0⟩
        replace h0 := h0.le hM_48
        replace hu_7 := hu_7.le hM_48
        replace hu_47 := hu_47.le hM_48
        refine WP_seq ?_
        refine WP_region ?_
        refine S_v E rfl (R_lss E rfl rfl) rfl ?_
        clear E a; intro a E
        refine WL_nil ?_
        refine T_n ?_
        refine WP_seq ?_
        refine WP_cond E rfl (fun hc_49 => ?_) (fun hc_49 => ?_)
        · replace hc_49 := of_decide_eq_true hc_49
          refine WP_skip ?_
          refine T_n ?_
          refine WP_seq ?_
          refine WP_block ?_
          refine WP_seq ?_
          refine WP_region ?_
          obtain ⟨x_50, hx_50⟩ : ∃ x, (x_45)[i]? = some x := ⟨_, List.getElem?_eq_getElem (by first | omega | (simp; done) | (simp; omega) | (simp_all; omega))⟩
          obtain ⟨p_51, hp_51, qp_51⟩ := hu_47.at hx_50
          refine S_v E rfl (R_idx E rfl rfl T22 hp_51 rfl) rfl ?_
          clear E a; intro a E
          refine S_v E rfl (R_loadM E rfl Tryz.isAgg3 S.imm qp_51) rfl ?_
          clear E a; intro a E
          refine S_v E rfl (R_assign E rfl) rfl ?_
          clear E a; intro a E
          refine WL_nil ?_
          refine T_n ?_
          refine WP_seq ?_
          refine WP_region ?_
          refine S_v E rfl (R_move E rfl) rfl ?_
          clear E a; intro a E
          refine S_v E rfl (R_move E rfl) rfl ?_
          clear E a; intro a E
          refine S_x (X_lookupE (vf := Value.bool) (zb := false) E S rfl MT106 rfl rfl ?_)
          clear E a S; rintro a w E S
          replace S : St w M_48 (OwnE Value.bool b_8 (bmap (remI (fun x => x) (sjI (fun x => x) l0 j) ((l0.getD 0 []).take i)) (fun _ => false)) :: _) := S
          refine S_v E rfl (R_move E rfl) rfl ?_
          clear E a; intro a E
          refine S_v E rfl (R_extract E rfl rfl) rfl ?_
          clear E a; intro a E
          refine S_v E rfl (R_extract E rfl rfl) rfl ?_
          clear E a; intro a E
          refine S_v E rfl (R_assign E rfl) rfl ?_
          clear E a; intro a E
          refine S_v E rfl (R_assign E rfl) rfl ?_
          clear E a; intro a E
          refine WL_nil ?_
          refine T_n ?_
          refine WP_seq ?_
          refine WP_region ?_
          refine S_v E rfl (R_move E rfl) rfl ?_
          clear E a; intro a E
          refine WL_nil ?_
          refine T_n ?_
          refine WP_cond E rfl (fun hc_52 => ?_) (fun hc_52 => ?_)
          · refine WP_seq ?_
            refine WP_region ?_
            refine S_v E rfl (R_move E rfl) rfl ?_
            clear E a; intro a E
            refine S_v E rfl (R_move E rfl) rfl ?_
            clear E a; intro a E
            refine S_x (X_buildI (ys := [x_50]) E S rfl T22 rfl rfl rfl ?_)
            clear E a S; rintro a w v_53 E S
            replace S := S.front2
            replace S := S.front1
            refine S_x (X_appendB (xs := iscI (fun x => x) (sjI (fun x => x) l0 j) ((l0.getD 0 []).take i)) (ys := [x_50]) E S rfl rfl rfl T22 (by (have h9 := isc_len (fun x => x) ((l0.getD 0 []).take i) (sjI (fun x => x) l0 j); have h8 := getD_total l0 0 _ hb; simp only [List.length_take] at h9; simp only [List.length_cons, List.length_nil]; omega)) ?_)
            clear E a S; rintro a w v_54 E S
            refine S_v E rfl (R_assign E rfl) rfl ?_
            clear E a; intro a E
            refine WL_nil ?_
            refine T_n ?_
            refine WP_region ?_
            refine S_v E rfl (R_move E rfl) rfl ?_
            clear E a; intro a E
            refine S_v E rfl (R_move E rfl) rfl ?_
            clear E a; intro a E
            replace S := S.front1
            refine S_x0 (X_delete0E (vf := Value.bool) E S MT106 rfl rfl ?_)
            clear E a S; rintro a w E S
            refine WL_nil ?_
            refine B_n ?_
            refine T_n ?_
            refine WP_region ?_
            refine S_v E rfl (R_addx (m := ((i + 1 : Nat) : Int)) E rfl rfl (by omega) (by omega)) rfl ?_
            clear E a; intro a E
            refine S_v E rfl (R_move E rfl) rfl ?_
            clear E a; intro a E
            refine WL_nil ?_
            refine T_n ?_
            replace S := S.front1
            replace S := S.re1 (l' := iscI (fun x => x) (sjI (fun x => x) l0 j) ((l0.getD 0 []).take (i + 1))) (by first | rfl | (rw [List.take_zero]; exact rs_start _ _) | exact rm_yes (fun x => x) (by assumption) (at_get (n := 0) (by assumption) rfl) | (refine rm_no (fun x => x) (by assumption) (at_get (n := 0) (by assumption) rfl) ?_; assumption) | (refine is_yes (fun x => x) (by assumption) (at_get (n := 0) (by assumption) rfl) ?_; assumption) | (refine is_no (fun x => x) (by assumption) (at_get (n := 0) (by assumption) rfl) ?_; assumption))
            replace S := S.front1
            replace S := S.reM (L' := (encE Value.bool (bmap (remI (fun x => x) (sjI (fun x => x) l0 j) ((l0.getD 0 []).take (i + 1))) (fun _ => false)))) (congrArg (encE Value.bool) (show delK (bmap (remI (fun x => x) (sjI (fun x => x) l0 j) ((l0.getD 0 []).take i)) (fun _ => false)) x_50 = bmap (remI (fun x => x) (sjI (fun x => x) l0 j) ((l0.getD 0 []).take (i + 1))) (fun _ => false) by first | rfl | (rw [List.take_zero]; exact rs_start _ _) | exact rm_yes (fun x => x) (by assumption) (at_get (n := 0) (by assumption) rfl) | (refine rm_no (fun x => x) (by assumption) (at_get (n := 0) (by assumption) rfl) ?_; assumption) | (refine is_yes (fun x => x) (by assumption) (at_get (n := 0) (by assumption) rfl) ?_; assumption) | (refine is_no (fun x => x) (by assumption) (at_get (n := 0) (by assumption) rfl) ?_; assumption)))
            exact ⟨i + 1, ⟨M_48, _, hM_48, S, E.keep ⟨rfl, rfl, rfl, rfl, rfl, trivial⟩, (by rw [(at_get (n := 0) (by assumption) rfl)]; omega)⟩, (by rw [(at_get (n := 0) (by assumption) rfl)]; omega)⟩
          · refine WP_skip ?_
            refine B_n ?_
            refine T_n ?_
            refine WP_region ?_
            refine S_v E rfl (R_addx (m := ((i + 1 : Nat) : Int)) E rfl rfl (by omega) (by omega)) rfl ?_
            clear E a; intro a E
            refine S_v E rfl (R_move E rfl) rfl ?_
            clear E a; intro a E
            refine WL_nil ?_
            refine T_n ?_
            replace S := S.front1
            replace S := S.re1 (l' := iscI (fun x => x) (sjI (fun x => x) l0 j) ((l0.getD 0 []).take (i + 1))) (by first | rfl | (rw [List.take_zero]; exact rs_start _ _) | exact rm_yes (fun x => x) (by assumption) (at_get (n := 0) (by assumption) rfl) | (refine rm_no (fun x => x) (by assumption) (at_get (n := 0) (by assumption) rfl) ?_; assumption) | (refine is_yes (fun x => x) (by assumption) (at_get (n := 0) (by assumption) rfl) ?_; assumption) | (refine is_no (fun x => x) (by assumption) (at_get (n := 0) (by assumption) rfl) ?_; assumption))
            replace S := S.front1
            replace S := S.reM (L' := (encE Value.bool (bmap (remI (fun x => x) (sjI (fun x => x) l0 j) ((l0.getD 0 []).take (i + 1))) (fun _ => false)))) (congrArg (encE Value.bool) (show bmap (remI (fun x => x) (sjI (fun x => x) l0 j) ((l0.getD 0 []).take i)) (fun _ => false) = bmap (remI (fun x => x) (sjI (fun x => x) l0 j) ((l0.getD 0 []).take (i + 1))) (fun _ => false) by first | rfl | (rw [List.take_zero]; exact rs_start _ _) | exact rm_yes (fun x => x) (by assumption) (at_get (n := 0) (by assumption) rfl) | (refine rm_no (fun x => x) (by assumption) (at_get (n := 0) (by assumption) rfl) ?_; assumption) | (refine is_yes (fun x => x) (by assumption) (at_get (n := 0) (by assumption) rfl) ?_; assumption) | (refine is_no (fun x => x) (by assumption) (at_get (n := 0) (by assumption) rfl) ?_; assumption)))
            exact ⟨i + 1, ⟨M_48, _, hM_48, S, E.keep ⟨rfl, rfl, rfl, rfl, rfl, trivial⟩, (by rw [(at_get (n := 0) (by assumption) rfl)]; omega)⟩, (by rw [(at_get (n := 0) (by assumption) rfl)]; omega)⟩
        · replace hc_49 := of_decide_eq_false hc_49
          refine WP_exit ?_
          refine T_x ?_
          refine T_x ?_
          refine B_x ?_
          refine T_n ?_
          refine WP_seq ?_
          refine WP_region ?_
          refine S_v E rfl (R_move E rfl) rfl ?_
          clear E a; intro a E
          refine S_v E rfl (R_assign E rfl) rfl ?_
          clear E a; intro a E
          refine WL_nil ?_
          refine T_n ?_
          refine WP_ret ?_
          replace S := S.front1
          have S0 := S; clear S
          obtain ⟨M_55, hM_55, hz_56, S⟩ := S0.freezeI (by (first | omega | (simp; omega) | (simp; done) | (have h9 := isc_len (fun x => x) ((l0.getD 0 []).take i) (sjI (fun x => x) l0 j); have h8 := getD_total l0 0 _ hb; simp only [List.length_take] at h9; omega)))
          clear S0
          replace h0 := h0.le hM_55
          replace hu_7 := hu_7.le hM_55
          replace hu_47 := hu_47.le hM_55
          exact F_ret1 E Tryz.results49 rfl ⟨_, rfl, M_55, (hM_9.trans (hM_13.trans (hM_48.trans hM_55))), (by rw [show (meetF (fun x => x) l0) = (iscI (fun x => x) (sjI (fun x => x) l0 j) ((l0.getD 0 []).take i)) from by first | (have e := List.eq_nil_of_length_eq_zero (l := l0) (by omega); subst e; rfl) | (rw [List.take_of_length_le (by rw [at_get (n := 0) (by assumption) rfl]; omega)]; (first | refine (meet_end (f := fun x => x) (ll := l0) (by omega) ?_ _).symm | refine meet_end (f := fun x => x) (ll := l0) (by omega) ?_ _); (first | (left; omega) | (right; exact bm_nil (f := fun _ => false) (by first | assumption | omega))))]; exact hz_56), S.drop⟩

set_option maxRecDepth 100000 in
set_option maxHeartbeats 4000000 in
theorem impl_Intersect {M : Hp} {v0 : Value} {l0 : List (List Int)} (h0 : RdII M v0 l0) (hb : ∀ x ∈ l0, x.length ≤ 1000000000) :
    Pu Tryz.prog (.func (.func 33) #[] #[]) M [v0] (fun r M' => RdI M' r (meetF (fun x => x) l0)) := by
  refine Pu_enter Tryz.func33 rfl Tryz.ntmps33 rfl Tryz.call33 ?_
  intro a w M1 H hM1 S E
  replace h0 := h0.le hM1
  have b0 := h0.bound
  have hml := meet_len (fun x => x) (ll := l0) hb
  refine WP_seq ?_
  refine WP_region ?_
  refine S_v E rfl (R_assign E rfl) rfl ?_
  clear E a; intro a E
  refine WL_nil ?_
  refine T_n ?_
  refine WP_seq ?_
  refine WP_region ?_
  refine S_v E rfl (R_move E rfl) rfl ?_
  clear E a; intro a E
  refine S_x (X_pu E S rfl rfl rfl (lo_Intersect h0 (by first | assumption | omega | (intro x hx; simp only [List.mem_cons, List.not_mem_nil, or_false] at hx; rcases hx with rfl | rfl <;> omega) | (intro x hx; simp only [List.mem_cons, List.not_mem_nil, or_false] at hx; rcases hx with rfl | rfl <;> simp; done))) (Hp.le.refl _) ?_)
  clear E a S; rintro a v_2 w M_1 hM_1 hv_2 S E
  replace h0 := h0.le hM_1
  refine S_v E rfl (R_assign E rfl) rfl ?_
  clear E a; intro a E
  refine WL_nil ?_
  refine T_n ?_
  refine WP_ret ?_
  exact F_ret1 E Tryz.results33 rfl ⟨_, rfl, M_1, hM_1, hv_2, S⟩

set_option maxRecDepth 100000 in
set_option maxHeartbeats 4000000 in
theorem lo_Without {M : Hp} {v0 v1 : Value} {l0 l1 : List Int} (h0 : RdI M v0 l0) (h1 : RdI M v1 l1) (hb : l0.length ≤ 1000000000000) :
    Pu Tryz.prog (.func (.func 50) #[] #[]) M [v0, v1] (fun r M' => RdI M' r ((l0).filter (fun x => !decide (x ∈ l1)))) := by
  refine Pu_enter Tryz.func50 rfl Tryz.ntmps50 rfl Tryz.call50 ?_
  intro a w M1 H hM1 S E
  replace h0 := h0.le hM1
  replace h1 := h1.le hM1
  have b0 := h0.bound
  refine WP_seq ?_
  refine WP_region ?_
  refine S_v E rfl (R_assign E rfl) rfl ?_
  clear E a; intro a E
  refine WL_nil ?_
  refine T_n ?_
  refine WP_seq ?_
  refine WP_region ?_
  refine S_v E rfl (R_move E rfl) rfl ?_
  clear E a; intro a E
  refine S_x (X_sp (p := []) E S rfl rfl rfl (lo_Keyify h1) (Hp.le.refl _) ?_)
  clear E a S; rintro a _ w M_1 _ hM_1 ⟨v_2, rfl, rfl⟩ S E
  replace S : St w M_1 (OwnS v_2 (keyL l1) :: _) := S
  replace h0 := h0.le hM_1
  replace h1 := h1.le hM_1
  refine S_v E rfl (R_assign E rfl) rfl ?_
  clear E a; intro a E
  refine WL_nil ?_
  refine T_n ?_
  refine WP_seq ?_
  refine WP_region ?_
  refine S_v E rfl (R_move E rfl) rfl ?_
  clear E a; intro a E
  refine S_v E rfl (R_lenV E rfl T22 h0.len) rfl ?_
  clear E a; intro a E
  refine S_x (X_make0 (k := (l0).length) E S rfl rfl rfl T22 rfl (by omega) (by omega) (by omega) ?_)
  clear E a S; rintro a w v_3 E S
  replace S := S.made0
  refine S_v E rfl (R_assign E rfl) rfl ?_
  clear E a; intro a E
  refine WL_nil ?_
  refine T_n ?_
  refine WP_seq ?_
  refine WP_seq ?_
  refine WP_region ?_
  refine S_v E rfl (R_move E rfl) rfl ?_
  clear E a; intro a E
  refine S_v E rfl (R_lenV E rfl T22 h0.len) rfl ?_
  clear E a; intro a E
  refine S_v E rfl (R_move E rfl) rfl ?_
  clear E a; intro a E
  refine WL_nil ?_
  refine T_n ?_
  refine WP_block ?_
  replace S := S.re1 (l' := (l0.take 0).filter (fun x => !decide (x ∈ keyL l1))) (by (first | (simp; done) | (rw [filter_succ (by assumption)]; first | (simp [*]; done) | (simp_all; done)) | (rw [filter_succ (List.getElem?_eq_getElem (show k < l0.length by omega))]; simp_all; done)))
  refine WP_loop (γ := Nat) (fun (k : Nat) a w => ∃ (M_4 : Hp) (u6 : Value), Hp.le M_1 M_4 ∧ St w M_4 (OwnI 3 u6 ((l0.take k).filter (fun x => !decide (x ∈ keyL l1))) :: OwnS v_2 (keyL l1) :: H) ∧ Env a 40 [] [(0, v0), (5, .map (some v_2)), (6, u6), (16, .int .i64 (((l0).length : Nat) : Int)), (17, .int .i64 ((k : Nat) : Int))] ∧ (k ≤ (l0).length)) (fun k => ((l0).length) - k) 0 ⟨M_1, _, Hp.le.refl _, S, E.keep ⟨rfl, rfl, rfl, rfl, rfl, trivial⟩, by ((try clear S); (try clear E); first | assumption | omega | rfl | (simp; done) | (simp_all; done) | (simp [List.take_add_one, *]; done) | grind [List.take_add_one])⟩ ?_
  try clear E
  try clear S
  try clear a
  try clear w
  rintro k a w ⟨M_4, u6, hM_4, S, E, hL0_0⟩
  replace h0 := h0.le hM_4
  replace h1 := h1.le hM_4
  have wl := List.length_filter_le (fun x => !decide (x ∈ keyL l1)) (l0.take k)
  refine WP_seq ?_
  refine WP_region ?_
  refine S_v E rfl (R_lss E rfl rfl) rfl ?_
  clear E a; intro a E
  refine WL_nil ?_
  refine T_n ?_
  refine WP_seq ?_
  refine WP_cond E rfl (fun hc_5 => ?_) (fun hc_5 => ?_)
  · replace hc_5 := of_decide_eq_true hc_5
    refine WP_skip ?_
    refine T_n ?_
    refine WP_seq ?_
    refine WP_block ?_
    refine WP_seq ?_
    refine WP_region ?_
    refine S_v E rfl (R_move E rfl) rfl ?_
    clear E a; intro a E
    refine S_v E rfl (R_assign E rfl) rfl ?_
    clear E a; intro a E
    refine WL_nil ?_
    refine T_n ?_
    refine WP_seq ?_
    refine WP_region ?_
    refine S_v E rfl (R_move E rfl) rfl ?_
    clear E a; intro a E
    refine S_v E rfl (R_move E rfl) rfl ?_
    clear E a; intro a E
    refine S_v E rfl (R_move E rfl) rfl ?_
    clear E a; intro a E
    obtain ⟨x_6, hx_6⟩ : ∃ x, (l0)[k]? = some x := ⟨_, List.getElem?_eq_getElem (by first | omega | (simp; done) | (simp; omega) | (simp_all; omega))⟩
    obtain ⟨p_7, hp_7, qp_7⟩ := h0.at hx_6
    refine S_v E rfl (R_idx E rfl rfl T22 hp_7 rfl) rfl ?_
    clear E a; intro a E
    refine S_v E rfl (R_loadM E rfl Tryz.isAgg3 S.imm qp_7) rfl ?_
    clear E a; intro a E
    replace S := S.front1
    refine S_x (X_lookupS E S rfl MT102 rfl rfl ?_)
    clear E a S; rintro a w E S
    replace S : St w M_4 (OwnS v_2 (keyL l1) :: _) := S
    refine S_v E rfl (R_move E rfl) rfl ?_
    clear E a; intro a E
    refine S_v E rfl (R_extract E rfl rfl) rfl ?_
    clear E a; intro a E
    refine S_v E rfl (R_extract E rfl rfl) rfl ?_
    clear E a; intro a E
    refine S_x (X_alloc (cs := #[]) E S rfl Tryz.zeroValue104 rfl ?_)
    clear E a S; rintro a w b_8 E S
    refine S_x0 (X_storeG (us := []) E S rfl rfl (Tryz.sizeOf104 _) rfl (by intro u hu; cases hu) ?_)
    clear E a S; rintro a w E S
    replace S : St w M_4 (blk b_8 (.cells #[] 104) :: _) := S
    have S0 := S; clear S
    obtain ⟨M_9, hM_9, hb_10, S⟩ := S0.freezeB
    clear S0
    replace h0 := h0.le hM_9
    replace h1 := h1.le hM_9
    refine S_v E rfl (R_assign E rfl) rfl ?_
    clear E a; intro a E
    refine WL_nil ?_
    refine T_n ?_
    refine WP_seq ?_
    refine WP_region ?_
    refine S_v E rfl (R_move E rfl) rfl ?_
    clear E a; intro a E
    refine S_v E rfl (R_not E rfl) rfl ?_
    clear E a; intro a E
    refine WL_nil ?_
    refine T_n ?_
    refine WP_cond E rfl (fun hc_11 => ?_) (fun hc_11 => ?_)
    · refine WP_region ?_
      refine S_v E rfl (R_move E rfl) rfl ?_
      clear E a; intro a E
      refine S_v E rfl (R_move E rfl) rfl ?_
      clear E a; intro a E
      refine S_v E rfl (R_move E rfl) rfl ?_
      clear E a; intro a E
      obtain ⟨p_12, hp_12, qp_12⟩ := h0.at hx_6
      refine S_v E rfl (R_idx E rfl rfl T22 hp_12 rfl) rfl ?_
      clear E a; intro a E
      refine S_v E rfl (R_loadM E rfl Tryz.isAgg3 S.imm qp_12) rfl ?_
      clear E a; intro a E
      refine S_x (X_buildI (ys := [x_6]) E S rfl T22 rfl rfl rfl ?_)
      clear E a S; rintro a w v_13 E S
      replace S := S.front2
      replace S := S.front1
      refine S_x (X_appendB (xs := (l0.take k).filter (fun x => !decide (x ∈ keyL l1))) (ys := [x_6]) E S rfl rfl rfl T22 (by (simp at wl ⊢; omega)) ?_)
      clear E a S; rintro a w v_14 E S
      refine S_v E rfl (R_assign E rfl) rfl ?_
      clear E a; intro a E
      refine WL_nil ?_
      refine B_n ?_
      refine T_n ?_
      refine WP_region ?_
      refine S_v E rfl (R_addx (m := ((k + 1 : Nat) : Int)) E rfl rfl (by omega) (by omega)) rfl ?_
      clear E a; intro a E
      refine S_v E rfl (R_move E rfl) rfl ?_
      clear E a; intro a E
      refine WL_nil ?_
      refine T_n ?_
      replace S := S.re1 (l' := (l0.take (k + 1)).filter (fun x => !decide (x ∈ keyL l1))) (by (first | (simp; done) | (rw [filter_succ (by assumption)]; first | (simp [*]; done) | (simp_all; done)) | (rw [filter_succ (List.getElem?_eq_getElem (show k < l0.length by omega))]; simp_all; done)))
      exact ⟨k + 1, ⟨M_9, _, (hM_4.trans hM_9), S, E.keep ⟨rfl, rfl, rfl, rfl, rfl, trivial⟩, by ((try clear S); (try clear E); first | assumption | omega | rfl | (simp; done) | (simp_all; done) | (simp [List.take_add_one, *]; done) | grind [List.take_add_one])⟩, by omega⟩
    · refine WP_skip ?_
      refine B_n ?_
      refine T_n ?_
      refine WP_region ?_
      refine S_v E rfl (R_addx (m := ((k + 1 : Nat) : Int)) E rfl rfl (by omega) (by omega)) rfl ?_
      clear E a; intro a E
      refine S_v E rfl (R_move E rfl) rfl ?_
      clear E a; intro a E
      refine WL_nil ?_
      refine T_n ?_
      replace S := S.front1
      replace S := S.re1 (l' := (l0.take (k + 1)).filter (fun x => !decide (x ∈ keyL l1))) (by (first | (simp; done) | (rw [filter_succ (by assumption)]; first | (simp [*]; done) | (simp_all; done)) | (rw [filter_succ (List.getElem?_eq_getElem (show k < l0.length by omega))]; simp_all; done)))
      exact ⟨k + 1, ⟨M_9, _, (hM_4.trans hM_9), S, E.keep ⟨rfl, rfl, rfl, rfl, rfl, trivial⟩, by ((try clear S); (try clear E); first | assumption | omega | rfl | (simp; done) | (simp_all; done) | (simp [List.take_add_one, *]; done) | grind [List.take_add_one])⟩, by omega⟩
  · replace hc_5 := of_decide_eq_false hc_5
    refine WP_exit ?_
    refine T_x ?_
    refine T_x ?_
    refine B_x ?_
    refine T_n ?_
    refine WP_seq ?_
    refine WP_region ?_
    refine S_v E rfl (R_move E rfl) rfl ?_
    clear E a; intro a E
    refine S_v E rfl (R_assign E rfl) rfl ?_
    clear E a; intro a E
    refine WL_nil ?_
    refine T_n ?_
    refine WP_ret ?_
    have S0 := S; clear S
    obtain ⟨M_15, hM_15, hz_16, S⟩ := S0.freezeI (by (have wl := List.length_filter_le (fun x => !decide (x ∈ keyL l1)) (l0.take k); simp at wl ⊢; omega))
    clear S0
    replace h0 := h0.le hM_15
    replace h1 := h1.le hM_15
    exact F_ret1 E Tryz.results50 rfl ⟨_, rfl, M_15, (hM_1.trans (hM_4.trans hM_15)), (by rw [show ((l0).filter (fun x => !decide (x ∈ l1))) = ((l0.take k).filter (fun x => !decide (x ∈ keyL l1))) from by (rw [List.take_of_length_le (by omega)]; simp only [mem_keyL])]; exact hz_16), S.drop⟩

set_option maxRecDepth 100000 in
set_option maxHeartbeats 4000000 in
theorem impl_Without {M : Hp} {v0 v1 : Value} {l0 l1 : List Int} (h0 : RdI M v0 l0) (h1 : RdI M v1 l1)(hb : l0.length ≤ 1000000000000) :
    Pu Tryz.prog (.func (.func 34) #[] #[]) M [v0, v1] (fun r M' => RdI M' r ((l0).filter (fun x => !decide (x ∈ l1)))) := by
  refine Pu_enter Tryz.func34 rfl Tryz.ntmps34 rfl Tryz.call34 ?_
  intro a w M1 H hM1 S E
  replace h0 := h0.le hM1
  replace h1 := h1.le hM1
  have b0 := h0.bound
  have b1 := h1.bound
  refine WP_seq ?_
  refine WP_region ?_
  refine S_v E rfl (R_assign E rfl) rfl ?_
  clear E a; intro a E
  refine WL_nil ?_
  refine T_n ?_
  refine WP_seq ?_
  refine WP_region ?_
  refine S_v E rfl (R_move E rfl) rfl ?_
  clear E a; intro a E
  refine S_v E rfl (R_move E rfl) rfl ?_
  clear E a; intro a E
  refine S_x (X_pu E S rfl rfl rfl (lo_Without h0 h1 (by (first | omega | (simp; omega) | (simp; done) | (simp_all; omega) | grind))) (Hp.le.refl _) ?_)
  clear E a S; rintro a v_2 w M_1 hM_1 hv_2 S E
  replace h0 := h0.le hM_1
  replace h1 := h1.le hM_1
  refine S_v E rfl (R_assign E rfl) rfl ?_
  clear E a; intro a E
  refine WL_nil ?_
  refine T_n ?_
  refine WP_ret ?_
  exact F_ret1 E Tryz.results34 rfl ⟨_, rfl, M_1, hM_1, hv_2, S⟩

set_option maxRecDepth 100000 in
set_option maxHeartbeats 4000000 in
theorem slices_Values1 {M : Hp} {v0 : Value} {l0 : List Int} (h0 : RdI M v0 l0){bx1 : Nat} (hbx1 : M bx1 = some (.cells #[v0] 22)) :
    SeqV Tryz.prog (.func (.func 80) #[] #[.pointer (some ⟨bx1, 0, none⟩)]) M (RInt) l0 := by
  refine SeqV_enter Tryz.func80 rfl Tryz.ntmps80 rfl Tryz.call80 ?_
  intro y J X a w M1 c H hJM hM1 hY hJ S E
  replace hbx1 := hM1.2 _ _ hbx1
  replace h0 := h0.le hM1
  have b0 := h0.bound
  refine WP_seq ?_
  refine WP_region ?_
  refine S_v E rfl (R_loadM E rfl Tryz.isAgg22 S.imm (cellM_box hbx1)) rfl ?_
  clear E a; intro a E
  refine S_v E rfl (R_lenV E rfl T22 h0.len) rfl ?_
  clear E a; intro a E
  refine S_v E rfl (R_move E rfl) rfl ?_
  clear E a; intro a E
  refine WL_nil ?_
  refine T_n ?_
  refine WP_block ?_
  refine WP_loop (γ := Nat) (fun (k : Nat) a w => ∃ (M_1 : Hp) (cL0 : HProp), Hp.le M1 M_1 ∧ St w M_1 (mks [] :: cL0 :: H) ∧ Env a 16 (([] : List Nat).map mk) [(0, y), (5, v0), (6, .int .i64 (((l0).length : Nat) : Int)), (7, .int .i64 ((k : Nat) : Int))] ∧ (k ≤ (l0).length) ∧ J (l0.take k) M_1 cL0) (fun k => ((l0).length) - k) 0 ⟨M1, _, Hp.le.refl _, S, E.keep ⟨rfl, rfl, rfl, rfl, trivial⟩, by ((try clear S); (try clear E); first | assumption | omega | rfl | (simp; done) | (simp_all; done) | (simp [List.take_add_one, *]; done) | grind [List.take_add_one]), J_eq hJ (by ((try clear S); (try clear E); first | assumption | omega | rfl | (simp; done) | (simp_all; done) | (simp [List.take_add_one, *]; done) | grind [List.take_add_one]))⟩ ?_
  try clear E
  try clear S
  try clear a
  try clear w
  rintro k a w ⟨M_1, cL0, hM_1, S, E, hL0_0, hJ⟩
  replace hbx1 := hM_1.2 _ _ hbx1
  replace h0 := h0.le hM_1
  refine WP_seq ?_
  refine WP_region ?_
  refine S_v E rfl (R_lss E rfl rfl) rfl ?_
  clear E a; intro a E
  refine WL_nil ?_
  refine T_n ?_
  refine WP_seq ?_
  refine WP_cond E rfl (fun hc_2 => ?_) (fun hc_2 => ?_)
  · replace hc_2 := of_decide_eq_true hc_2
    refine WP_skip ?_
    refine T_n ?_
    refine WP_seq ?_
    refine WP_block ?_
    refine WP_seq ?_
    refine WP_region ?_
    obtain ⟨x_3, hx_3⟩ : ∃ x, (l0)[k]? = some x := ⟨_, List.getElem?_eq_getElem (by first | omega | (simp; done) | (simp; omega) | (simp_all; omega))⟩
    obtain ⟨p_4, hp_4, qp_4⟩ := h0.at hx_3
    refine S_v E rfl (R_idx E rfl rfl T22 hp_4 rfl) rfl ?_
    clear E a; intro a E
    refine S_v E rfl (R_loadM E rfl Tryz.isAgg3 S.imm qp_4) rfl ?_
    clear E a; intro a E
    refine S_v E rfl (R_assign E rfl) rfl ?_
    clear E a; intro a E
    refine WL_nil ?_
    refine T_n ?_
    refine WP_seq ?_
    refine WP_region ?_
    refine S_v E rfl (R_move E rfl) rfl ?_
    clear E a; intro a E
    refine S_v E rfl (R_move E rfl) rfl ?_
    clear E a; intro a E
    replace S := S.front1
    refine S_x (X_yield (x := x_3) E S rfl rfl rfl hY hM_1 (by (first | (simp; done) | exact List.prefix_refl _ | (rw [pre_take (by assumption)]; exact List.take_prefix _ _) | exact pre_take_lt (by assumption))) rfl hJ ?_)
    clear E a S; rintro a w M_5 c_6 go_7 hM_5 hJ S E
    replace hbx1 := hM_5.2 _ _ hbx1
    replace h0 := h0.le hM_5
    cases go_7
    · replace hJ : X (l0.take k ++ [x_3]) M_5 c_6 := hJ
      refine S_v E rfl (R_not E rfl) rfl ?_
      clear E a; intro a E
      refine WL_nil ?_
      refine T_n ?_
      refine WP_condT E rfl rfl ?_
      refine WP_ret ?_
      refine B_r ?_
      refine T_r ?_
      refine T_r ?_
      refine B_r ?_
      replace S := S.front1
      exact F_retM0 E S Tryz.results80 (fun w S => ⟨_, rfl, M_5, _, (hM_1.trans hM_5), .inr ⟨(l0.take k ++ [x_3]), (by first | assumption | ((first | (simp; done) | exact List.prefix_refl _ | (rw [pre_take (by assumption)]; exact List.take_prefix _ _) | exact pre_take_lt (by assumption)))), hJ⟩, S⟩)
    · replace hJ : J (l0.take k ++ [x_3]) M_5 c_6 := hJ
      refine S_v E rfl (R_not E rfl) rfl ?_
      clear E a; intro a E
      refine WL_nil ?_
      refine T_n ?_
      refine WP_condF E rfl rfl ?_
      refine WP_skip ?_
      refine B_n ?_
      refine T_n ?_
      refine WP_region ?_
      refine S_v E rfl (R_addx (m := ((k + 1 : Nat) : Int)) E rfl rfl (by omega) (by omega)) rfl ?_
      clear E a; intro a E
      refine S_v E rfl (R_move E rfl) rfl ?_
      clear E a; intro a E
      refine WL_nil ?_
      refine T_n ?_
      replace S := S.front1
      exact ⟨k + 1, ⟨M_5, _, (hM_1.trans hM_5), S, E.keep ⟨rfl, rfl, rfl, rfl, trivial⟩, by ((try clear S); (try clear E); first | assumption | omega | rfl | (simp; done) | (simp_all; done) | (simp [List.take_add_one, *]; done) | grind [List.take_add_one]), J_eq hJ (by ((try clear S); (try clear E); first | assumption | omega | rfl | (simp; done) | (simp_all; done) | (simp [List.take_add_one, *]; done) | grind [List.take_add_one]))⟩, by omega⟩
  · replace hc_2 := of_decide_eq_false hc_2
    refine WP_exit ?_
    refine T_x ?_
    refine T_x ?_
    refine B_x ?_
    refine F_nrm ?_
    replace S := S.front1
    replace S := S.front1
    have hpre : l0.take k = l0 := by ((try clear S); (try clear E); first | rfl | (simp; done) | (simp_all; done) | grind [List.take_add_one])
    rw [hpre] at hJ
    exact F_retM0 E S Tryz.results80 (fun w S => ⟨_, rfl, M_1, _, hM_1, .inl hJ, S⟩)

set_option maxRecDepth 100000 in
set_option maxHeartbeats 4000000 in
theorem slices_Values {M : Hp} {v0 : Value} {l0 : List Int} (h0 : RdI M v0 l0) :
    Pu Tryz.prog (.func (.func 56) #[] #[]) M [v0] (fun r M' => SeqV Tryz.prog r M' RInt l0) := by
  refine Pu_enter Tryz.func56 rfl Tryz.ntmps56 rfl Tryz.call56 ?_
  intro a w M1 H hM1 S E
  replace h0 := h0.le hM1
  have b0 := h0.bound
  refine WP_seq ?_
  refine WP_region ?_
  refine S_x (X_box (cs := #[v0]) E S rfl rfl (cells_one (RdS.one' h0)) ?_)
  clear E a S; rintro a w b_1 E S
  obtain ⟨M_2, hM_2, hb_1, S⟩ := S.freezeB
  replace h0 := h0.le hM_2
  refine S_v E rfl (R_assign E rfl) rfl ?_
  clear E a; intro a E
  refine WL_nil ?_
  refine T_n ?_
  refine WP_seq ?_
  refine WP_region ?_
  refine S_v E rfl (R_makeFunc E rfl rfl) rfl ?_
  clear E a; intro a E
  refine S_v E rfl (R_assign E rfl) rfl ?_
  clear E a; intro a E
  refine WL_nil ?_
  refine T_n ?_
  refine WP_ret ?_
  exact F_ret1 E Tryz.results56 rfl ⟨_, rfl, M_2, hM_2, (SeqV_eq (slices_Values1 h0 hb_1) (by ((try clear S); (try clear E); first | rfl | (simp; done) | (simp_all; done) | grind [List.take_add_one]))), S⟩

set_option maxRecDepth 100000 in
set_option maxHeartbeats 4000000 in
theorem impl_seqs {M : Hp} {v0 : Value} {l0 : List (List Int)} (h0 : RdII M v0 l0) (hb : l0.length ≤ 1000000000) :
    Pu Tryz.prog (.func (.func 53) #[] #[]) M [v0] (fun r M' => RdS 1 (RSq Tryz.prog RInt) M' r l0) := by
  refine Pu_enter Tryz.func53 rfl Tryz.ntmps53 rfl Tryz.call53 ?_
  intro a w M1 H hM1 S E
  replace h0 := h0.le hM1
  have b0 := h0.bound
  refine WP_seq ?_
  refine WP_region ?_
  refine S_v E rfl (R_assign E rfl) rfl ?_
  clear E a; intro a E
  refine WL_nil ?_
  refine T_n ?_
  refine WP_seq ?_
  refine WP_region ?_
  refine S_v E rfl (R_assign E rfl) rfl ?_
  clear E a; intro a E
  refine WL_nil ?_
  refine T_n ?_
  refine WP_seq ?_
  refine WP_seq ?_
  refine WP_region ?_
  refine S_v E rfl (R_move E rfl) rfl ?_
  clear E a; intro a E
  refine S_v E rfl (R_lenV E rfl T36 h0.len) rfl ?_
  clear E a; intro a E
  refine S_v E rfl (R_move E rfl) rfl ?_
  clear E a; intro a E
  refine WL_nil ?_
  refine T_n ?_
  refine WP_block ?_
  replace S : St w M1 (OwnC 74 1 (.slice none 0 0) ([] : List (List Int)).length [] :: _) := S.ownNil
  have hr_2 : RowsR (RSq Tryz.prog RInt) 1 M1 ([] : List (List Int)) [] := RowsR.nil
  have hre : ([] : List (List Int)) = l0.take 0 := by ((try clear S); (try clear E); first | assumption | omega | rfl | (simp; done) | (simp_all; done) | (simp [List.take_add_one, *]; done) | grind [List.take_add_one])
  replace S := S.reR hre
  replace hr_2 := hr_2.eq hre
  clear hre
  refine WP_loop (γ := Nat) (fun (k : Nat) a w => ∃ (M_3 : Hp) (u3 : Value) (xs3 : List Value), Hp.le M1 M_3 ∧ St w M_3 (OwnC 74 1 u3 (l0.take k).length xs3 :: H) ∧ Env a 19 [] [(3, u3), (6, v0), (7, .int .i64 (((l0).length : Nat) : Int)), (8, .int .i64 ((k : Nat) : Int))] ∧ (k ≤ (l0).length) ∧ RowsR (RSq Tryz.prog RInt) 1 M_3 (l0.take k) xs3) (fun k => ((l0).length) - k) 0 ⟨M1, _, _, Hp.le.refl _, S, E.keep ⟨rfl, rfl, rfl, rfl, trivial⟩, by ((try clear S); (try clear E); first | assumption | omega | rfl | (simp; done) | (simp_all; done) | (simp [List.take_add_one, *]; done) | grind [List.take_add_one]), hr_2⟩ ?_
  try clear E
  try clear S
  try clear a
  try clear w
  rintro k a w ⟨M_3, u3, xs3, hM_3, S, E, hL0_0, hr3⟩
  replace h0 := h0.le hM_3
  refine WP_seq ?_
  refine WP_region ?_
  refine S_v E rfl (R_lss E rfl rfl) rfl ?_
  clear E a; intro a E
  refine WL_nil ?_
  refine T_n ?_
  refine WP_seq ?_
  refine WP_cond E rfl (fun hc_4 => ?_) (fun hc_4 => ?_)
  · replace hc_4 := of_decide_eq_true hc_4
    refine WP_skip ?_
    refine T_n ?_
    refine WP_seq ?_
    refine WP_block ?_
    refine WP_seq ?_
    refine WP_region ?_
    obtain ⟨x_5, hx_5⟩ : ∃ x, (l0)[k]? = some x := ⟨_, List.getElem?_eq_getElem (by first | omega | (simp; done) | (simp; omega) | (simp_all; omega))⟩
    obtain ⟨p_6, u_7, hp_6, qp_6, hu_7⟩ := h0.at hx_5
    have bu_7 := hu_7.bound
    refine S_v E rfl (R_idx E rfl rfl T36 hp_6 rfl) rfl ?_
    clear E a; intro a E
    refine S_v E rfl (R_loadM E rfl Tryz.isAgg22 S.imm qp_6) rfl ?_
    clear E a; intro a E
    refine S_v E rfl (R_assign E rfl) rfl ?_
    clear E a; intro a E
    refine WL_nil ?_
    refine T_n ?_
    refine WP_region ?_
    refine S_v E rfl (R_move E rfl) rfl ?_
    clear E a; intro a E
    refine S_v E rfl (R_move E rfl) rfl ?_
    clear E a; intro a E
    refine S_x (X_pu E S rfl rfl rfl (slices_Values hu_7) (Hp.le.refl _) ?_)
    clear E a S; rintro a v_9 w M_8 hM_8 hv_9 S E
    replace h0 := h0.le hM_8
    replace hr3 := hr3.le RSq_mono hM_8
    replace hu_7 := hu_7.le hM_8
    refine S_x (X_buildM (R := (RSq Tryz.prog RInt)) (vs := [v_9]) (xs := [x_5]) RSq_mono E S rfl T76 rfl rfl rfl (by intro u hu; simp only [List.mem_cons, List.not_mem_nil, or_false] at hu; rcases hu with rfl <;> first | exact hv_9.1) rfl (rowsC (R := (RSq Tryz.prog RInt)) ⟨_, rfl, hv_9⟩ rowsN) ?_)
    clear E a S; rintro a v_10 w M_11 hM_11 hv_10 S E
    replace h0 := h0.le hM_11
    replace hr3 := hr3.le RSq_mono hM_11
    replace hu_7 := hu_7.le hM_11
    replace hv_9 := hv_9.le hM_11
    refine S_x (X_appendR (R := (RSq Tryz.prog RInt)) (zs := l0.take k) (ys := [x_5]) E S hr3 rfl rfl rfl T76 hv_10 one_RSq (by first | omega | (simp; done) | (simp; omega) | (simp_all; omega)) (by first | omega | (simp; done) | (simp; omega) | (simp_all; omega)) ?_)
    clear E a S; rintro a w v_12 xs_13 E hr_14 S
    refine S_v E rfl (R_assign E rfl) rfl ?_
    clear E a; intro a E
    refine WL_nil ?_
    refine B_n ?_
    refine T_n ?_
    refine WP_region ?_
    refine S_v E rfl (R_addx (m := ((k + 1 : Nat) : Int)) E rfl rfl (by omega) (by omega)) rfl ?_
    clear E a; intro a E
    refine S_v E rfl (R_move E rfl) rfl ?_
    clear E a; intro a E
    refine WL_nil ?_
    refine T_n ?_
    have hre : (l0.take k) ++ [x_5] = l0.take (k + 1) := by ((try clear S); (try clear E); first | assumption | omega | rfl | (simp; done) | (simp_all; done) | (simp [List.take_add_one, *]; done) | grind [List.take_add_one])
    replace S := S.reR hre
    replace hr_14 := hr_14.eq hre
    clear hre
    exact ⟨k + 1, ⟨M_11, _, _, (hM_3.trans (hM_8.trans hM_11)), S, E.keep ⟨rfl, rfl, rfl, rfl, trivial⟩, by ((try clear S); (try clear E); first | assumption | omega | rfl | (simp; done) | (simp_all; done) | (simp [List.take_add_one, *]; done) | grind [List.take_add_one]), hr_14⟩, by omega⟩
  · replace hc_4 := of_decide_eq_false hc_4
    refine WP_exit ?_
    refine T_x ?_
    refine T_x ?_
    refine B_x ?_
    refine T_n ?_
    refine WP_seq ?_
    refine WP_region ?_
    refine S_v E rfl (R_move E rfl) rfl ?_
    clear E a; intro a E
    refine S_v E rfl (R_assign E rfl) rfl ?_
    clear E a; intro a E
    refine WL_nil ?_
    refine T_n ?_
    refine WP_ret ?_
    have S0 := S; clear S
    obtain ⟨M_15, hM_15, hz_16, S⟩ := S0.freezeR hr3 RSq_mono (by (first | omega | (simp; omega) | (simp; done) | (simp_all; omega) | grind))
    clear S0
    replace h0 := h0.le hM_15
    exact F_ret1 E Tryz.results53 rfl ⟨_, rfl, M_15, (hM_3.trans hM_15), (by rw [show l0 = (l0.take k) from by (rw [List.take_of_length_le (by omega)])]; exact hz_16), S⟩

set_option maxRecDepth 100000 in
set_option maxHeartbeats 4000000 in
theorem it_Union1 {M : Hp} {v0 : Value} {l0 : List (List Int)} (h0 : RdS 1 (RSq Tryz.prog RInt) M v0 l0) {bx1 : Nat} (hbx1 : M bx1 = some (.cells #[v0] 76)) :
    SeqV Tryz.prog (.func (.func 75) #[] #[.pointer (some ⟨bx1, 0, none⟩)]) M (RInt) (keyL (l0).flatten) := by
  refine SeqV_enter Tryz.func75 rfl Tryz.ntmps75 rfl Tryz.call75 ?_
  intro y J X a w M1 c H hJM hM1 hY hJ S E
  replace hbx1 := hM1.2 _ _ hbx1
  replace h0 := h0.le RSq_mono hM1
  have b0 := h0.bound
  refine WP_seq ?_
  refine WP_region ?_
  refine S_x (X_box (cs := #[y]) E S rfl rfl (cells_one hY.1) ?_)
  clear E a S; rintro a w b_1 E S
  obtain ⟨M_2, hM_2, hb_1, S⟩ := S.freezeB
  replace hbx1 := hM_2.2 _ _ hbx1
  replace h0 := h0.le RSq_mono hM_2
  replace hJ := hJM _ _ _ _ hM_2 hJ
  refine WL_nil ?_
  refine T_n ?_
  refine WP_seq ?_
  refine WP_region ?_
  refine S_x (X_makeMap E S rfl ?_)
  clear E a S; rintro a w b_3 E S
  replace S : St w M_2 (OwnS b_3 ([] : List Int) :: _) := S
  refine S_x (X_alloc (cs := #[.map none]) E S rfl Tryz.zeroValue102 rfl ?_)
  clear E a S; rintro a w b_4 E S
  refine S_x0 (X_store E S rfl rfl (Tryz.sizeOf102 _) rfl ?_)
  clear E a S; rintro a w E S
  refine WL_nil ?_
  refine T_n ?_
  refine WP_seq ?_
  refine WP_region ?_
  refine S_v E rfl (R_loadM E rfl Tryz.isAgg76 S.imm (cellM_box hbx1)) rfl ?_
  clear E a; intro a E
  refine S_v E rfl (R_lenV E rfl T76 h0.len) rfl ?_
  clear E a; intro a E
  refine S_v E rfl (R_move E rfl) rfl ?_
  clear E a; intro a E
  refine WL_nil ?_
  refine T_n ?_
  refine WP_block ?_
  replace S := S.front1
  replace S := S.reM (L' := (Sl.encS (keyL (l0.take 0).flatten))) (congrArg Sl.encS (show ([] : List Int) = keyL (l0.take 0).flatten by first | (simp [keyL]; done) | (rw [flatten_succ (by assumption)])))
  refine WP_loop (γ := Nat) (fun (k : Nat) a w => ∃ (M_5 : Hp) (cL0 : HProp) (Ds0 : List Nat), Hp.le M_2 M_5 ∧ St w M_5 (OwnS b_3 (keyL (l0.take k).flatten) :: blk b_4 (.cells #[.map (some b_3)] 102) :: mks Ds0 :: cL0 :: H) ∧ Env a 35 (Ds0.map mk) [(1, .pointer (some ⟨bx1, 0, none⟩)), (2, .pointer (some ⟨b_1, 0, none⟩)), (3, .pointer (some ⟨b_4, 0, none⟩)), (10, .int .i64 (((l0).length : Nat) : Int)), (11, .int .i64 ((k : Nat) : Int))] ∧ (k ≤ (l0).length) ∧ J (keyL (l0.take k).flatten) M_5 cL0) (fun k => ((l0).length) - k) 0 ⟨M_2, _, _, Hp.le.refl _, S, E.keep ⟨rfl, rfl, rfl, rfl, rfl, trivial⟩, by ((try clear S); (try clear E); first | assumption | omega | rfl | (simp; done) | (simp_all; done) | (simp [List.take_add_one, *]; done) | grind [List.take_add_one]), J_eq hJ (by (simp [keyL]))⟩ ?_
  try clear E
  try clear S
  try clear a
  try clear w
  rintro k a w ⟨M_5, cL0, Ds0, hM_5, S, E, hL0_0, hJ⟩
  replace hbx1 := hM_5.2 _ _ hbx1
  replace h0 := h0.le RSq_mono hM_5
  replace hb_1 := hM_5.2 _ _ hb_1
  refine WP_seq ?_
  refine WP_region ?_
  refine S_v E rfl (R_lss E rfl rfl) rfl ?_
  clear E a; intro a E
  refine WL_nil ?_
  refine T_n ?_
  refine WP_seq ?_
  refine WP_cond E rfl (fun hc_6 => ?_) (fun hc_6 => ?_)
  · replace hc_6 := of_decide_eq_true hc_6
    refine WP_skip ?_
    refine T_n ?_
    refine WP_seq ?_
    refine WP_block ?_
    refine WP_seq ?_
    refine WP_region ?_
    refine S_v E rfl (R_move E rfl) rfl ?_
    clear E a; intro a E
    refine S_v E rfl (R_assign E rfl) rfl ?_
    clear E a; intro a E
    refine WL_nil ?_
    refine T_n ?_
    refine WP_seq ?_
    refine WP_region ?_
    refine S_v E rfl (R_loadM E rfl Tryz.isAgg76 S.imm (cellM_box hbx1)) rfl ?_
    clear E a; intro a E
    refine S_v E rfl (R_move E rfl) rfl ?_
    clear E a; intro a E
    obtain ⟨x_7, hx_7⟩ : ∃ x, (l0)[k]? = some x := ⟨_, List.getElem?_eq_getElem (by first | omega | (simp; done) | (simp; omega) | (simp_all; omega))⟩
    obtain ⟨p_8, u_9, hp_8, qp_8, hu_9⟩ := RdQ.at h0 hx_7
    refine S_v E rfl (R_idx E rfl rfl T76 hp_8 rfl) rfl ?_
    clear E a; intro a E
    refine S_v E rfl (R_loadM E rfl Tryz.isAgg74 S.imm qp_8) rfl ?_
    clear E a; intro a E
    refine WL_nil ?_
    refine T_n ?_
    refine WP_block ?_
    replace S := S.front1
    replace S := S.front3
    replace S := S.front2
    replace S := S.front2
    replace E := E.keep (l' := [(1, .pointer (some ⟨bx1, 0, none⟩)), (2, .pointer (some ⟨b_1, 0, none⟩)), (3, .pointer (some ⟨b_4, 0, none⟩)), (10, .int .i64 (((l0).length : Nat) : Int)), (11, .int .i64 ((k : Nat) : Int)), (17, u_9)]) ⟨rfl, rfl, rfl, rfl, rfl, rfl, trivial⟩
    replace S := S.front2
    replace S := S.front2
    replace S := S.reM (L' := (Sl.encS (keyL ((l0.take k).flatten ++ (([] : List Int)))))) (congrArg Sl.encS (show keyL (l0.take k).flatten = keyL ((l0.take k).flatten ++ (([] : List Int))) by first | (rw [List.append_nil]; done) | (rw [← List.append_assoc]; first | exact (keyL_snoc _ _).symm | (refine keyU_noB ?_; assumption))))
    replace S := S.front2
    have S0 := S; clear S; have S := St.pack [blk b_4 (.cells #[.map (some b_3)] 102), OwnS b_3 (keyL ((l0.take k).flatten ++ (([] : List Int)))), cL0] S0; clear S0
    refine WP_range (RV := RInt) (l := x_7) (fun pre M c => ∃ (c1 : HProp), c = bigs [blk b_4 (.cells #[.map (some b_3)] 102), OwnS b_3 (keyL ((l0.take k).flatten ++ (pre))), c1] ∧ (J (keyL ((l0.take k).flatten ++ (pre))) M c1)) (fun cd pre M c => cd = .ret ∧ ∃ z, z <+: (keyL (l0).flatten) ∧ X z M c) E S rfl hu_9 (Hp.le.refl _) (fun _ _ _ h => by rw [h]; rfl) (by decide) (by rintro _ M M' c hM ⟨c1, rfl, f0⟩; exact ⟨_, rfl, hJM _ _ _ _ hM f0⟩) ⟨_, rfl, J_eq hJ (by (rw [List.append_nil]))⟩ ?_ ?_ ?_
    clear E S
    · rintro lb_11 rec_12 pre x _ a w M_10 _ G hM_10 hp_13 rfl ⟨c1, rfl, f0⟩ E S
      replace E : Env a 35 [] [(18, .int .i64 x), (1, .pointer (some ⟨bx1, 0, none⟩)), (2, .pointer (some ⟨b_1, 0, none⟩)), (3, .pointer (some ⟨b_4, 0, none⟩)), (10, .int .i64 (((l0).length : Nat) : Int)), (11, .int .i64 ((k : Nat) : Int)), (17, u_9)] := E
      replace S := S.swap.unpack3
      have hq1 := prefix_lt hp_13
      replace hbx1 := hM_10.2 _ _ hbx1
      replace h0 := h0.le RSq_mono hM_10
      replace hb_1 := hM_10.2 _ _ hb_1
      replace hu_9 := hu_9.le hM_10
      refine WP_region ?_
      refine S_v E rfl (R_assign E rfl) rfl ?_
      clear E a; intro a E
      refine WL_nil ?_
      refine T_n ?_
      replace S := S.front3
      refine rb S ?_
      clear S; intro w S
      refine WP_block ?_
      refine WP_seq ?_
      refine WP_region ?_
      refine S_v E rfl (R_load E rfl (Tryz.isAgg102 _) (cell_blk (S.mem (.tail _ (.head _))))) rfl ?_
      clear E a; intro a E
      refine S_v E rfl (R_move E rfl) rfl ?_
      clear E a; intro a E
      replace S := S.front2
      refine S_x (X_lookupS E S rfl MT102 rfl rfl ?_)
      clear E a S; rintro a w E S
      replace S : St w M_10 (OwnS b_3 (keyL ((l0.take k).flatten ++ (pre))) :: _) := S
      refine S_v E rfl (R_move E rfl) rfl ?_
      clear E a; intro a E
      refine S_v E rfl (R_extract E rfl rfl) rfl ?_
      clear E a; intro a E
      refine S_v E rfl (R_extract E rfl rfl) rfl ?_
      clear E a; intro a E
      refine S_x (X_alloc (cs := #[]) E S rfl Tryz.zeroValue104 rfl ?_)
      clear E a S; rintro a w b_15 E S
      refine S_x0 (X_storeG (us := []) E S rfl rfl (Tryz.sizeOf104 _) rfl (by intro u hu; cases hu) ?_)
      clear E a S; rintro a w E S
      replace S : St w M_10 (blk b_15 (.cells #[] 104) :: _) := S
      have S0 := S; clear S
      obtain ⟨M_16, hM_16, hb_17, S⟩ := S0.freezeB
      clear S0
      replace hbx1 := hM_16.2 _ _ hbx1
      replace h0 := h0.le RSq_mono hM_16
      replace hb_1 := hM_16.2 _ _ hb_1
      replace hu_9 := hu_9.le hM_16
      replace f0 := hJM _ _ _ _ hM_16 f0
      refine S_v E rfl (R_assign E rfl) rfl ?_
      clear E a; intro a E
      refine WL_nil ?_
      refine T_n ?_
      refine WP_seq ?_
      refine WP_region ?_
      refine S_v E rfl (R_move E rfl) rfl ?_
      clear E a; intro a E
      refine S_v E rfl (R_not E rfl) rfl ?_
      clear E a; intro a E
      refine WL_nil ?_
      refine T_n ?_
      refine WP_cond E rfl (fun hc_18 => ?_) (fun hc_18 => ?_)
      · refine WP_seq ?_
        refine WP_seq ?_
        refine WP_region ?_
        refine S_v E rfl (R_loadM E rfl Tryz.isAgg85 S.imm (cellM_box hb_1)) rfl ?_
        clear E a; intro a E
        refine S_v E rfl (R_move E rfl) rfl ?_
        clear E a; intro a E
        replace S := S.front3
        refine S_x (X_yield (x := x) E S rfl rfl rfl hY (hM_2.trans (hM_5.trans (hM_10.trans hM_16))) (by (rw [keyU_yesB (by assumption)]; exact keyL_pre (flat_prefix (by assumption) (by assumption)))) rfl f0 ?_)
        clear E a S; rintro a w M_19 c_20 go_21 hM_19 f0 S E
        replace hbx1 := hM_19.2 _ _ hbx1
        replace h0 := h0.le RSq_mono hM_19
        replace hb_1 := hM_19.2 _ _ hb_1
        replace hu_9 := hu_9.le hM_19
        replace hb_17 := hM_19.2 _ _ hb_17
        cases go_21
        · replace f0 : X (keyL ((l0.take k).flatten ++ (pre)) ++ [x]) M_19 c_20 := f0
          refine S_v E rfl (R_not E rfl) rfl ?_
          clear E a; intro a E
          refine WL_nil ?_
          refine T_n ?_
          refine WP_condT E rfl rfl ?_
          refine WP_ret ?_
          refine T_r ?_
          refine B_r ?_
          replace S := S.front1
          replace S := S.drop
          replace S := S.front2
          replace S := S.drop
          replace S := S.front1
          exact ⟨M_19, _, (hM_16.trans hM_19), ⟨rfl, _, (by first | assumption | ((rw [keyU_yesB (by assumption)]; exact keyL_pre (flat_prefix (by assumption) (by assumption)))) | ((first | (simp; done) | exact List.prefix_refl _ | (rw [pre_take (by assumption)]; exact List.take_prefix _ _) | exact pre_take_lt (by assumption)))), f0⟩, S⟩
        · replace f0 : J (keyL ((l0.take k).flatten ++ (pre)) ++ [x]) M_19 c_20 := f0
          refine S_v E rfl (R_not E rfl) rfl ?_
          clear E a; intro a E
          refine WL_nil ?_
          refine T_n ?_
          refine WP_condF E rfl rfl ?_
          refine WP_skip ?_
          refine T_n ?_
          refine WP_region ?_
          refine S_v E rfl (R_load E rfl (Tryz.isAgg102 _) (cell_blk (S.mem (.tail _ (.tail _ (.tail _ (.head _))))))) rfl ?_
          clear E a; intro a E
          refine S_v E rfl (R_move E rfl) rfl ?_
          clear E a; intro a E
          refine S_v E rfl (R_build (u := .agg #[]) (vs := []) E rfl (fun w => FB104__  w)) rfl ?_
          clear E a; intro a E
          replace S := S.front1
          refine S_x0 (X_updateS E S MT102 rfl rfl rfl ?_)
          clear E a S; rintro a w E S
          refine WL_nil ?_
          refine B_n ?_
          replace S := S.front1
          replace S := S.front1
          replace S := S.front3
          replace S := S.front2
          replace S := S.front2
          replace S := S.reM (L' := (Sl.encS (keyL ((l0.take k).flatten ++ ((pre ++ [x])))))) (congrArg Sl.encS (show addS (keyL ((l0.take k).flatten ++ (pre))) x = keyL ((l0.take k).flatten ++ ((pre ++ [x]))) by first | (rw [List.append_nil]; done) | (rw [← List.append_assoc]; first | exact (keyL_snoc _ _).symm | (refine keyU_noB ?_; assumption))))
          replace S := S.front2
          have S0 := S; clear S; have S := (St.pack [blk b_4 (.cells #[.map (some b_3)] 102), OwnS b_3 (keyL ((l0.take k).flatten ++ ((pre ++ [x])))), c_20] S0).swap; clear S0
          exact ⟨M_19, _, (hM_16.trans hM_19), ⟨_, rfl, J_eq f0 (by (rw [← List.append_assoc]; first | (refine keyU_yesB ?_; assumption) | (refine keyU_noB ?_; assumption)))⟩, S⟩
      · refine WP_skip ?_
        refine B_n ?_
        replace S := S.front3
        replace S := S.front1
        replace S := S.front3
        replace S := S.front2
        replace S := S.front2
        replace S := S.reM (L' := (Sl.encS (keyL ((l0.take k).flatten ++ ((pre ++ [x])))))) (congrArg Sl.encS (show keyL ((l0.take k).flatten ++ (pre)) = keyL ((l0.take k).flatten ++ ((pre ++ [x]))) by first | (rw [List.append_nil]; done) | (rw [← List.append_assoc]; first | exact (keyL_snoc _ _).symm | (refine keyU_noB ?_; assumption))))
        replace S := S.front2
        have S0 := S; clear S; have S := (St.pack [blk b_4 (.cells #[.map (some b_3)] 102), OwnS b_3 (keyL ((l0.take k).flatten ++ ((pre ++ [x])))), c1] S0).swap; clear S0
        exact ⟨M_16, _, hM_16, ⟨_, rfl, J_eq f0 (by (rw [← List.append_assoc]; first | (refine keyU_yesB ?_; assumption) | (refine keyU_noB ?_; assumption)))⟩, S⟩
    · rintro a w M_22 _ D_23 hM_22 ⟨c1, rfl, f0⟩ S E
      replace S := S.unpack3
      replace hbx1 := hM_22.2 _ _ hbx1
      replace h0 := h0.le RSq_mono hM_22
      replace hb_1 := hM_22.2 _ _ hb_1
      replace hu_9 := hu_9.le hM_22
      refine B_n ?_
      refine B_n ?_
      refine T_n ?_
      refine WP_region ?_
      refine S_v E rfl (R_addx (m := ((k + 1 : Nat) : Int)) E rfl rfl (by omega) (by omega)) rfl ?_
      clear E a; intro a E
      refine S_v E rfl (R_move E rfl) rfl ?_
      clear E a; intro a E
      refine WL_nil ?_
      refine T_n ?_
      replace S := S.front2
      replace S := S.front3
      replace S := S.front2
      replace S := S.front3
      replace S := S.reM (L' := (Sl.encS (keyL (l0.take (k + 1)).flatten))) (congrArg Sl.encS (show keyL ((l0.take k).flatten ++ (x_7)) = keyL (l0.take (k + 1)).flatten by first | (simp [keyL]; done) | (rw [flatten_succ (by assumption)])))
      exact ⟨k + 1, ⟨M_22, _, _, (hM_5.trans hM_22), S, E.keep ⟨rfl, rfl, rfl, rfl, rfl, trivial⟩, by ((try clear S); (try clear E); first | assumption | omega | rfl | (simp; done) | (simp_all; done) | (simp [List.take_add_one, *]; done) | grind [List.take_add_one]), J_eq f0 (by (rw [flatten_succ (by assumption)]))⟩, by omega⟩
    · rintro a w M_24 c_ D_25 p_26 _ hM_24 hp_27 ⟨rfl, z_, hz_, f0⟩ S E
      replace hbx1 := hM_24.2 _ _ hbx1
      replace h0 := h0.le RSq_mono hM_24
      replace hb_1 := hM_24.2 _ _ hb_1
      replace hu_9 := hu_9.le hM_24
      refine WP_ret ?_
      refine B_r ?_
      refine B_r ?_
      refine T_r ?_
      refine T_r ?_
      refine B_r ?_
      replace S := S.front1
      exact F_retM0 E S Tryz.results75 (fun w S => ⟨_, rfl, M_24, _, (hM_2.trans (hM_5.trans hM_24)), .inr ⟨z_, (by first | assumption | ((first | (simp; done) | exact List.prefix_refl _ | (rw [pre_take (by assumption)]; exact List.take_prefix _ _) | exact pre_take_lt (by assumption)))), f0⟩, S⟩)
  · replace hc_6 := of_decide_eq_false hc_6
    refine WP_exit ?_
    refine T_x ?_
    refine T_x ?_
    refine B_x ?_
    refine F_nrm ?_
    replace S := S.drop
    replace S := S.drop
    replace S := S.front1
    replace S := S.front1
    have hpre : keyL (l0.take k).flatten = keyL (l0).flatten := by (rw [List.take_of_length_le (by omega)])
    rw [hpre] at hJ
    exact F_retM0 E S Tryz.results75 (fun w S => ⟨_, rfl, M_5, _, (hM_2.trans hM_5), .inl hJ, S⟩)

set_option maxRecDepth 100000 in
set_option maxHeartbeats 4000000 in
theorem it_Union {M : Hp} {v0 : Value} {l0 : List (List Int)} (h0 : RdS 1 (RSq Tryz.prog RInt) M v0 l0) :
    Pu Tryz.prog (.func (.func 52) #[] #[]) M [v0] (fun r M' => SeqV Tryz.prog r M' RInt (keyL (l0).flatten)) := by
  refine Pu_enter Tryz.func52 rfl Tryz.ntmps52 rfl Tryz.call52 ?_
  intro a w M1 H hM1 S E
  replace h0 := h0.le RSq_mono hM1
  have b0 := h0.bound
  refine WP_seq ?_
  refine WP_region ?_
  refine S_x (X_box (cs := #[v0]) E S rfl rfl (cells_one (RdS.one' h0)) ?_)
  clear E a S; rintro a w b_1 E S
  obtain ⟨M_2, hM_2, hb_1, S⟩ := S.freezeB
  replace h0 := h0.le RSq_mono hM_2
  refine S_v E rfl (R_assign E rfl) rfl ?_
  clear E a; intro a E
  refine WL_nil ?_
  refine T_n ?_
  refine WP_seq ?_
  refine WP_region ?_
  refine S_v E rfl (R_makeFunc E rfl rfl) rfl ?_
  clear E a; intro a E
  refine S_v E rfl (R_assign E rfl) rfl ?_
  clear E a; intro a E
  refine WL_nil ?_
  refine T_n ?_
  refine WP_ret ?_
  exact F_ret1 E Tryz.results52 rfl ⟨_, rfl, M_2, hM_2, (SeqV_eq (it_Union1 h0 hb_1) (by ((try clear S); (try clear E); first | rfl | (simp; done) | (simp_all; done) | grind [List.take_add_one]))), S⟩

set_option maxRecDepth 100000 in
set_option maxHeartbeats 4000000 in
theorem slices_AppendSeq {M : Hp} {v1 : Value} {l1 : List Int} (h1 : SeqV Tryz.prog v1 M (RInt) l1)(hb : l1.length ≤ 1000000000000) :
    Pu Tryz.prog (.func (.func 74) #[] #[]) M [.slice none 0 0, v1] (fun r M' => RdI M' r l1) := by
  refine Pu_enter Tryz.func74 rfl Tryz.ntmps74 rfl Tryz.call74 ?_
  intro a w M1 H hM1 S E
  replace h1 := h1.le hM1
  replace S : St w M1 (mks [] :: _) := S.empty
  replace E : Env a 13 (([] : List Nat).map mk) _ := E
  refine WP_seq ?_
  refine WP_region ?_
  refine S_x (X_box (cs := #[.slice none 0 0]) E S rfl rfl rfl ?_)
  clear E a S; rintro a w b_1 E S
  refine S_v E rfl (R_assign E rfl) rfl ?_
  clear E a; intro a E
  refine WL_nil ?_
  refine T_n ?_
  refine WP_seq ?_
  refine WP_seq ?_
  refine WP_region ?_
  refine S_v E rfl (R_move E rfl) rfl ?_
  clear E a; intro a E
  refine WL_nil ?_
  refine T_n ?_
  refine WP_block ?_
  replace S := (S.ownNil (e := 3) (sz := 1)).made0
  replace S := S.front1
  replace E := E.keep (l' := [(2, .pointer (some ⟨b_1, 0, none⟩)), (6, v1)]) ⟨rfl, rfl, trivial⟩
  replace S := S.front1
  replace S := S.re1 (l' := ([] : List Int)) (by ((try clear S); (try clear E); first | assumption | omega | rfl | (simp; done) | (simp_all; done) | (simp [List.take_add_one, *]; done) | grind [List.take_add_one]))
  replace S := S.front1
  have S0 := S; clear S; have S := St.pack [blk b_1 (.cells #[(.slice none 0 0)] 22), OwnI 3 (.slice none 0 0) ([] : List Int)] S0; clear S0
  refine WP_range (RV := RInt) (l := l1) (fun pre M c => ∃ (u2 : Value), c = bigs [blk b_1 (.cells #[u2] 22), OwnI 3 u2 pre]) (fun _ _ _ _ => False) E S rfl h1 (Hp.le.refl _) (fun _ _ _ h => by rw [h]; rfl) (by decide) (by rintro _ M M' c hM ⟨u2, rfl⟩; exact ⟨_, rfl⟩) ⟨_, rfl⟩ ?_ ?_ ?_
  clear E S
  · rintro lb_4 rec_5 pre x _ a w M_3 _ G hM_3 hp_6 rfl ⟨u2, rfl⟩ E S
    replace E : Env a 13 [] [(7, .int .i64 x), (2, .pointer (some ⟨b_1, 0, none⟩)), (6, v1)] := E
    replace S := S.swap.unpack2
    have hq0 := prefix_lt hp_6
    replace h1 := h1.le hM_3
    refine WP_region ?_
    refine S_v E rfl (R_assign E rfl) rfl ?_
    clear E a; intro a E
    refine WL_nil ?_
    refine T_n ?_
    replace S := S.front2
    refine rb S ?_
    clear S; intro w S
    refine WP_block ?_
    refine WP_region ?_
    refine S_v E rfl (R_load E rfl (Tryz.isAgg22 _) (cell_blk (S.mem (.tail _ (.head _))))) rfl ?_
    clear E a; intro a E
    refine S_v E rfl (R_move E rfl) rfl ?_
    clear E a; intro a E
    refine S_x (X_buildI (ys := [x]) E S rfl T22 rfl rfl rfl ?_)
    clear E a S; rintro a w v_8 E S
    replace S := S.front3
    replace S := S.front1
    refine S_x (X_appendB (xs := pre) (ys := [x]) E S rfl rfl rfl T22 (by first | omega | (simp; done) | (simp; omega) | (simp_all; omega)) ?_)
    clear E a S; rintro a w v_9 E S
    have ho_10 := S.oneI
    replace S := S.front2
    refine S_x0 (X_store E S rfl rfl (Tryz.sizeOf22 _) ho_10 ?_)
    clear E a S; rintro a w E S
    refine WL_nil ?_
    refine B_n ?_
    replace S := S.front1
    replace S := S.front1
    replace S := S.front1
    replace S := S.front1
    have S0 := S; clear S; have S := (St.pack [blk b_1 (.cells #[v_9] 22), OwnI 3 v_9 (pre ++ [x])] S0).swap; clear S0
    exact ⟨M_3, _, (Hp.le.refl _), ⟨_, rfl⟩, S⟩
  · rintro a w M_11 _ D_12 hM_11 ⟨u2, rfl⟩ S E
    replace S := S.unpack2
    replace h1 := h1.le hM_11
    refine B_n ?_
    refine T_n ?_
    refine WP_seq ?_
    refine WP_region ?_
    refine S_v E rfl (R_load E rfl (Tryz.isAgg22 _) (cell_blk (S.mem (.head _)))) rfl ?_
    clear E a; intro a E
    refine S_v E rfl (R_assign E rfl) rfl ?_
    clear E a; intro a E
    refine WL_nil ?_
    refine T_n ?_
    refine WP_ret ?_
    replace S := S.front1
    have S0 := S; clear S
    obtain ⟨M_13, hM_13, hz_14, S⟩ := S0.freezeI (by (first | omega | (simp; omega) | (simp; done) | (simp_all; omega) | grind))
    clear S0
    replace h1 := h1.le hM_13
    replace S := S.drop
    exact F_retM1 E S Tryz.results74 rfl (fun w S => ⟨_, rfl, M_13, (hM_11.trans hM_13), hz_14, S⟩)
  · rintro _ _ _ _ _ _ _ _ _ hX; exact hX.elim

set_option maxRecDepth 100000 in
set_option maxHeartbeats 4000000 in
theorem slices_Collect {M : Hp} {v0 : Value} {l0 : List Int} (h0 : SeqV Tryz.prog v0 M (RInt) l0)(hb : l0.length ≤ 1000000000000) :
    Pu Tryz.prog (.func (.func 51) #[] #[]) M [v0] (fun r M' => RdI M' r l0) := by
  refine Pu_enter Tryz.func51 rfl Tryz.ntmps51 rfl Tryz.call51 ?_
  intro a w M1 H hM1 S E
  replace h0 := h0.le hM1
  refine WP_seq ?_
  refine WP_region ?_
  refine S_v E rfl (R_assign E rfl) rfl ?_
  clear E a; intro a E
  refine WL_nil ?_
  refine T_n ?_
  refine WP_seq ?_
  refine WP_region ?_
  refine S_v E rfl (R_move E rfl) rfl ?_
  clear E a; intro a E
  refine S_x (X_pu E S rfl rfl rfl (slices_AppendSeq h0 (by first | omega | (first | omega | (simp; omega) | (simp; done) | (simp_all; omega) | grind))) (Hp.le.refl _) ?_)
  clear E a S; rintro a v_2 w M_1 hM_1 hv_2 S E
  replace h0 := h0.le hM_1
  refine S_v E rfl (R_assign E rfl) rfl ?_
  clear E a; intro a E
  refine WL_nil ?_
  refine T_n ?_
  refine WP_ret ?_
  exact F_ret1 E Tryz.results51 rfl ⟨_, rfl, M_1, hM_1, hv_2, S⟩

set_option maxRecDepth 100000 in
set_option maxHeartbeats 4000000 in
theorem impl_UnionSeq {M : Hp} {v0 : Value} {l0 : List (List Int)} (h0 : RdII M v0 l0) (hb : total l0 ≤ 1000000000) (hb2 : l0.length ≤ 1000000000) :
    Pu Tryz.prog (.func (.func 35) #[] #[]) M [v0] (fun r M' => RdI M' r (keyL (l0).flatten)) := by
  refine Pu_enter Tryz.func35 rfl Tryz.ntmps35 rfl Tryz.call35 ?_
  intro a w M1 H hM1 S E
  replace h0 := h0.le hM1
  have b0 := h0.bound
  have hul := keyF_le l0 l0.length
  rw [List.take_of_length_le (Nat.le_refl _)] at hul
  refine WP_seq ?_
  refine WP_region ?_
  refine S_v E rfl (R_assign E rfl) rfl ?_
  clear E a; intro a E
  refine WL_nil ?_
  refine T_n ?_
  refine WP_seq ?_
  refine WP_region ?_
  refine S_v E rfl (R_move E rfl) rfl ?_
  clear E a; intro a E
  refine S_x (X_pu E S rfl rfl rfl (impl_seqs h0 (by first | omega | (simp; omega))) (Hp.le.refl _) ?_)
  clear E a S; rintro a v_2 w M_1 hM_1 hv_2 S E
  replace h0 := h0.le hM_1
  refine S_x (X_pu E S rfl rfl rfl (it_Union hv_2) (Hp.le.refl _) ?_)
  clear E a S; rintro a v_4 w M_3 hM_3 hv_4 S E
  replace h0 := h0.le hM_3
  replace hv_2 := hv_2.le RSq_mono hM_3
  refine S_x (X_pu E S rfl rfl rfl (slices_Collect hv_4 (by first | omega | (first | omega | (simp; omega) | (simp; done) | (simp_all; omega) | grind))) (Hp.le.refl _) ?_)
  clear E a S; rintro a v_6 w M_5 hM_5 hv_6 S E
  replace h0 := h0.le hM_5
  replace hv_2 := hv_2.le RSq_mono hM_5
  replace hv_4 := hv_4.le hM_5
  refine S_v E rfl (R_assign E rfl) rfl ?_
  clear E a; intro a E
  refine WL_nil ?_
  refine T_n ?_
  refine WP_ret ?_
  exact F_ret1 E Tryz.results35 rfl ⟨_, rfl, M_5, (hM_1.trans (hM_3.trans hM_5)), hv_6, S⟩

set_option maxRecDepth 100000 in
set_option maxHeartbeats 4000000 in
theorem it_Empty1 {M : Hp}  :
    SeqV Tryz.prog (.func (.func 91) #[] #[]) M (RInt) ([] : List Int) := by
  refine SeqV_enter Tryz.func91 rfl Tryz.ntmps91 rfl Tryz.call91 ?_
  intro y J X a w M1 c H hJM hM1 hY hJ S E
  refine WP_skip ?_
  refine F_nrm ?_
  replace S := S.front1
  replace S := S.front1
  have hpre : [] = ([] : List Int) := by ((try clear S); (try clear E); first | rfl | (simp; done) | (simp_all; done) | grind [List.take_add_one])
  rw [hpre] at hJ
  exact F_retM0 E S Tryz.results91 (fun w S => ⟨_, rfl, M1, _, (Hp.le.refl _), .inl hJ, S⟩)

set_option maxRecDepth 100000 in
set_option maxHeartbeats 4000000 in
theorem it_Empty {M : Hp}  :
    Pu Tryz.prog (.func (.func 76) #[] #[]) M [] (fun r M' => SeqV Tryz.prog r M' RInt ([] : List Int)) := by
  refine Pu_enter Tryz.func76 rfl Tryz.ntmps76 rfl Tryz.call76 ?_
  intro a w M1 H hM1 S E
  refine WP_seq ?_
  refine WP_region ?_
  refine S_v E rfl (R_assign E rfl) rfl ?_
  clear E a; intro a E
  refine WL_nil ?_
  refine T_n ?_
  refine WP_seq ?_
  refine WP_region ?_
  refine S_v E rfl (R_assign E rfl) rfl ?_
  clear E a; intro a E
  refine WL_nil ?_
  refine T_n ?_
  refine WP_ret ?_
  exact F_ret1 E Tryz.results76 rfl ⟨_, rfl, M1, (Hp.le.refl _), (SeqV_eq (it_Empty1 ) (by ((try clear S); (try clear E); first | rfl | (simp; done) | (simp_all; done) | grind [List.take_add_one]))), S⟩

end Go.Proofs.YtlmpgefhnmfhpaaGreat.wFnSetRoads
