/- Walks through the functions that laws.FnSetRelations reaches: what each computes; no conditions beyond what each theorem states. -/
import Derived.Test.YtlmpgefhnmfhpaaGreatWFnSetRelationsa
set_option linter.unusedVariables false
set_option linter.unusedSimpArgs false
namespace Go.Proofs.YtlmpgefhnmfhpaaGreat.wFnSetRelations
open Go Go.Sl
set_option maxRecDepth 100000 in
set_option maxHeartbeats 4000000 in
theorem U_new {M : Hp} {n0 : Nat} (hb0 : n0 ≤ 1000000000000) :
    Sp Tryz.prog (.func (.func 85) #[] #[]) M [.int .i64 ((n0 : Nat) : Int)] [] (fun r M' C' => ∃ b m, r = .pointer (some ⟨b, 0, none⟩) ∧ C' = [blk b (.cells #[.map (some m)] 145), OwnS m []]) := by
  refine Sp_enter Tryz.func85 rfl Tryz.ntmps85 rfl Tryz.call85 ?_
  intro a w M1 H hM1 S E
  refine WP_seq ?_
  refine WP_region ?_
  refine S_v E rfl (R_assign E rfl) rfl ?_
  clear E a; intro a E
  refine WL_nil ?_
  refine T_n ?_
  refine WP_seq ?_
  refine WP_region ?_
  refine S_v E rfl (R_move E rfl) rfl ?_
  clear E a; intro a E
  refine S_x (X_makeMapR E S rfl MT145 rfl ?_)
  clear E a S; rintro a w b_1 E S
  replace S : St w M1 (OwnS b_1 ([] : List Int) :: _) := S
  refine S_x (X_alloc (cs := #[.map none]) E S rfl Tryz.zeroValue145 rfl ?_)
  clear E a S; rintro a w b_2 E S
  refine S_x0 (X_store E S rfl rfl (Tryz.sizeOf145 _) rfl ?_)
  clear E a S; rintro a w E S
  refine WL_nil ?_
  refine T_n ?_
  refine WP_seq ?_
  refine WP_region ?_
  refine S_v E rfl (R_assign E rfl) rfl ?_
  clear E a; intro a E
  refine WL_nil ?_
  refine T_n ?_
  refine WP_ret ?_
  replace S := S.front1
  replace S := S.front1
  exact F_ret1 E Tryz.results85 rfl ⟨_, rfl, M1, _, (Hp.le.refl _), ⟨_, _, rfl, rfl⟩, S⟩

set_option maxRecDepth 100000 in
set_option maxHeartbeats 4000000 in
theorem U_Add {M : Hp} {m9 : Nat} {l9 : List Int} {x0 : Int} :
    Sp Tryz.prog (.func (.func 86) #[] #[]) M [.map (some m9), .int .i64 x0] [OwnS m9 l9] (fun r M' C' => (∃ z, r = .bool z) ∧ C' = [OwnS m9 (addS l9 x0)]) := by
  refine Sp_enter Tryz.func86 rfl Tryz.ntmps86 rfl Tryz.call86 ?_
  intro a w M1 H hM1 S E
  replace S : St w M1 (OwnS m9 l9 :: _) := S
  refine WP_seq ?_
  refine WP_region ?_
  refine S_v E rfl (R_assign E rfl) rfl ?_
  clear E a; intro a E
  refine WL_nil ?_
  refine T_n ?_
  refine WP_seq ?_
  refine WP_region ?_
  refine S_v E rfl (R_move E rfl) rfl ?_
  clear E a; intro a E
  refine S_v E rfl ((R_lenO E S MT145 rfl).trans (by rw [encS_len])) rfl ?_
  clear E a; intro a E
  refine S_v E rfl (R_assign E rfl) rfl ?_
  clear E a; intro a E
  refine WL_nil ?_
  refine T_n ?_
  refine WP_seq ?_
  refine WP_region ?_
  refine S_v E rfl (R_move E rfl) rfl ?_
  clear E a; intro a E
  refine S_v E rfl (R_move E rfl) rfl ?_
  clear E a; intro a E
  refine S_v E rfl (R_build (u := .agg #[]) (vs := []) E rfl (fun w => FB104__  w)) rfl ?_
  clear E a; intro a E
  refine S_x0 (X_updateS E S MT145 rfl rfl rfl ?_)
  clear E a S; rintro a w E S
  refine WL_nil ?_
  refine T_n ?_
  refine WP_seq ?_
  refine WP_region ?_
  refine S_v E rfl (R_move E rfl) rfl ?_
  clear E a; intro a E
  refine S_v E rfl (R_move E rfl) rfl ?_
  clear E a; intro a E
  refine S_v E rfl ((R_lenO E S MT145 rfl).trans (by rw [encS_len])) rfl ?_
  clear E a; intro a E
  refine S_v E rfl (R_neq E rfl rfl) rfl ?_
  clear E a; intro a E
  refine S_v E rfl (R_assign E rfl) rfl ?_
  clear E a; intro a E
  refine WL_nil ?_
  refine T_n ?_
  refine WP_ret ?_
  exact F_ret1 E Tryz.results86 rfl ⟨_, rfl, M1, _, (Hp.le.refl _), ⟨⟨_, rfl⟩, rfl⟩, S⟩

set_option maxRecDepth 100000 in
set_option maxHeartbeats 4000000 in
theorem U_NewSet {M : Hp} {v0 : Value} {l0 : List Int} (h0 : RdI M v0 l0)(hb : l0.length ≤ 1000000000) :
    Pu Tryz.prog (.func (.func 59) #[] #[]) M [v0] (fun r M' => (∃ p, r = .iface 116 p ∧ RdSU 145 M' p l0)) := by
  refine Pu_enter Tryz.func59 rfl Tryz.ntmps59 rfl Tryz.call59 ?_
  intro a w M1 H hM1 S E
  replace h0 := h0.le hM1
  have b0 := h0.bound
  refine WP_seq ?_
  refine WP_region ?_
  refine S_v E rfl (R_assign E rfl) rfl ?_
  clear E a; intro a E
  refine WL_nil ?_
  refine T_n ?_
  refine WP_seq ?_
  refine WP_region ?_
  refine S_v E rfl (R_move E rfl) rfl ?_
  clear E a; intro a E
  refine S_v E rfl (R_lenV E rfl T22 h0.len) rfl ?_
  clear E a; intro a E
  refine S_x (X_sp (p := []) E S rfl rfl rfl (U_new (by first | assumption | omega)) (Hp.le.refl _) ?_)
  clear E a S; rintro a _ w M_1 _ hM_1 ⟨b_3, mm_4, rfl, rfl⟩ S E
  replace S : St w M_1 (blk b_3 (.cells #[.map (some mm_4)] 145) :: OwnS mm_4 ([] : List Int) :: H) := S
  replace h0 := h0.le hM_1
  refine S_v E rfl (R_assign E rfl) rfl ?_
  clear E a; intro a E
  refine WL_nil ?_
  refine T_n ?_
  refine WP_seq ?_
  refine WP_seq ?_
  refine WP_region ?_
  refine S_v E rfl (R_move E rfl) rfl ?_
  clear E a; intro a E
  refine S_v E rfl (R_lenV E rfl T22 h0.len) rfl ?_
  clear E a; intro a E
  refine S_v E rfl (R_move E rfl) rfl ?_
  clear E a; intro a E
  refine WL_nil ?_
  refine T_n ?_
  refine WP_block ?_
  replace S := S.front1
  replace S := S.reM (L' := (Sl.encS (addsL [] (l0.take 0)))) (congrArg Sl.encS (show ([] : List Int) = (addsL [] (l0.take 0)) by (first | rfl | (simp [addsL]; done) | (rw [List.take_add_one]; simp [*, addsL_snoc]; done))))
  refine WP_loop (γ := Nat) (fun (k : Nat) a w => ∃ (M_5 : Hp), Hp.le M_1 M_5 ∧ St w M_5 (OwnS mm_4 (addsL [] (l0.take k)) :: blk b_3 (.cells #[.map (some mm_4)] 145) :: H) ∧ Env a 23 [] [(3, .pointer (some ⟨b_3, 0, none⟩)), (9, v0), (10, .int .i64 (((l0).length : Nat) : Int)), (11, .int .i64 ((k : Nat) : Int))] ∧ (k ≤ (l0).length)) (fun k => ((l0).length) - k) 0 ⟨M_1, Hp.le.refl _, S, E.keep ⟨rfl, rfl, rfl, rfl, trivial⟩, by ((try clear S); (try clear E); first | assumption | omega | rfl | (simp; done) | (simp_all; done) | (simp [List.take_add_one, *]; done) | grind [List.take_add_one])⟩ ?_
  try clear E
  try clear S
  try clear a
  try clear w
  rintro k a w ⟨M_5, hM_5, S, E, hL0_0⟩
  replace h0 := h0.le hM_5
  refine WP_seq ?_
  refine WP_region ?_
  refine S_v E rfl (R_lss E rfl rfl) rfl ?_
  clear E a; intro a E
  refine WL_nil ?_
  refine T_n ?_
  refine WP_seq ?_
  refine WP_cond E rfl (fun hc_6 => ?_) (fun hc_6 => ?_)
  · replace hc_6 := of_decide_eq_true hc_6
    refine WP_skip ?_
    refine T_n ?_
    refine WP_seq ?_
    refine WP_block ?_
    refine WP_seq ?_
    refine WP_region ?_
    obtain ⟨x_7, hx_7⟩ : ∃ x, (l0)[k]? = some x := ⟨_, List.getElem?_eq_getElem (by first | omega | (simp; done) | (simp; omega) | (simp_all; omega))⟩
    obtain ⟨p_8, hp_8, qp_8⟩ := h0.at hx_7
    refine S_v E rfl (R_idx E rfl rfl T22 hp_8 rfl) rfl ?_
    clear E a; intro a E
    refine S_v E rfl (R_loadM E rfl Tryz.isAgg3 S.imm qp_8) rfl ?_
    clear E a; intro a E
    refine S_v E rfl (R_assign E rfl) rfl ?_
    clear E a; intro a E
    refine WL_nil ?_
    refine T_n ?_
    refine WP_region ?_
    refine S_v E rfl (R_move E rfl) rfl ?_
    clear E a; intro a E
    refine S_v E rfl (R_nilCheck E rfl rfl) rfl ?_
    clear E a; intro a E
    refine S_v E rfl (R_load E rfl (Tryz.isAgg145 _) (cell_blk (S.mem (.tail _ (.head _))))) rfl ?_
    clear E a; intro a E
    refine S_v E rfl (R_move E rfl) rfl ?_
    clear E a; intro a E
    refine S_x (X_sp (p := [OwnS mm_4 (addsL [] (l0.take k))]) E S rfl rfl rfl (U_Add) (Hp.le.refl _) ?_)
    clear E a S; rintro a _ w M_9 _ hM_9 ⟨⟨_, rfl⟩, rfl⟩ S E
    replace S : St w M_9 (OwnS mm_4 (addS (addsL [] (l0.take k)) x_7) :: blk b_3 (.cells #[.map (some mm_4)] 145) :: H) := S
    replace h0 := h0.le hM_9
    refine WL_nil ?_
    refine B_n ?_
    refine T_n ?_
    refine WP_region ?_
    refine S_v E rfl (R_addx (m := ((k + 1 : Nat) : Int)) E rfl rfl (by omega) (by omega)) rfl ?_
    clear E a; intro a E
    refine S_v E rfl (R_move E rfl) rfl ?_
    clear E a; intro a E
    refine WL_nil ?_
    refine T_n ?_
    replace S := S.reM (L' := (Sl.encS (addsL [] (l0.take (k + 1))))) (congrArg Sl.encS (show addS (addsL [] (l0.take k)) x_7 = (addsL [] (l0.take (k + 1))) by (first | rfl | (simp [addsL]; done) | (rw [List.take_add_one]; simp [*, addsL_snoc]; done))))
    exact ⟨k + 1, ⟨M_9, (hM_5.trans hM_9), S, E.keep ⟨rfl, rfl, rfl, rfl, trivial⟩, by ((try clear S); (try clear E); first | assumption | omega | rfl | (simp; done) | (simp_all; done) | (simp [List.take_add_one, *]; done) | grind [List.take_add_one])⟩, by omega⟩
  · replace hc_6 := of_decide_eq_false hc_6
    refine WP_exit ?_
    refine T_x ?_
    refine T_x ?_
    refine B_x ?_
    refine T_n ?_
    refine WP_seq ?_
    refine WP_region ?_
    refine S_v E rfl (R_move E rfl) rfl ?_
    clear E a; intro a E
    have S0 := S; clear S
    obtain ⟨M_10, hM_10, hm_11, S⟩ := S0.freezeM
    clear S0
    replace h0 := h0.le hM_10
    have S0 := S; clear S
    obtain ⟨M_12, hM_12, hb_13, S⟩ := S0.freezeB
    clear S0
    replace h0 := h0.le hM_12
    replace hm_11 := hm_11.le hM_12
    refine S_v E rfl (R_ifaceP E rfl Tryz.underlying116) rfl ?_
    clear E a; intro a E
    refine S_v E rfl (R_assign E rfl) rfl ?_
    clear E a; intro a E
    refine WL_nil ?_
    refine T_n ?_
    refine WP_ret ?_
    exact F_ret1 E Tryz.results59 rfl ⟨_, rfl, M_12, (hM_1.trans (hM_5.trans (hM_10.trans hM_12))), ⟨_, rfl, ⟨_, _, (addsL [] (l0.take k)), rfl, hb_13, hm_11, (by first | assumption | exact addsL_nodup _ _ List.nodup_nil | exact addsL_nodup _ _ (addsL_nodup _ _ List.nodup_nil)), (by (intro x; rw [List.take_of_length_le (by omega)]; simp [mem_addsL]))⟩⟩, S⟩

set_option maxRecDepth 100000 in
set_option maxHeartbeats 4000000 in
theorem U_setOf {M : Hp} {v1 : Value} {l1 : List Int} (h1 : RdI M v1 l1)(hb : l1.length ≤ 1000000000) :
    Pu Tryz.prog (.func (.func 41) #[] #[]) M [.bool false, v1] (fun r M' => (∃ p, r = .iface 116 p ∧ RdSU 145 M' p l1)) := by
  refine Pu_enter Tryz.func41 rfl Tryz.ntmps41 rfl Tryz.call41 ?_
  intro a w M1 H hM1 S E
  replace h1 := h1.le hM1
  have b1 := h1.bound
  refine WP_seq ?_
  refine WP_region ?_
  refine S_v E rfl (R_assign E rfl) rfl ?_
  clear E a; intro a E
  refine WL_nil ?_
  refine T_n ?_
  refine WP_seq ?_
  refine WP_seq ?_
  refine WP_region ?_
  refine S_v E rfl (R_move E rfl) rfl ?_
  clear E a; intro a E
  refine WL_nil ?_
  refine T_n ?_
  refine WP_condF E rfl rfl ?_
  refine WP_skip ?_
  refine T_n ?_
  refine WP_seq ?_
  refine WP_region ?_
  refine S_v E rfl (R_move E rfl) rfl ?_
  clear E a; intro a E
  refine S_x (X_pu E S rfl rfl rfl (U_NewSet h1 (by first | assumption | omega)) (Hp.le.refl _) ?_)
  clear E a S; rintro a _ w M_1 hM_1 ⟨v_2, rfl, hv_2⟩ S E
  replace h1 := h1.le hM_1
  refine S_v E rfl (R_assign E rfl) rfl ?_
  clear E a; intro a E
  refine WL_nil ?_
  refine T_n ?_
  refine WP_ret ?_
  exact F_ret1 E Tryz.results41 rfl ⟨_, rfl, M_1, hM_1, ⟨_, rfl, hv_2⟩, S⟩

set_option maxRecDepth 100000 in
set_option maxHeartbeats 4000000 in
theorem U_twoSets {M : Hp} {v1 v2 : Value} {l1 l2 : List Int} (h1 : RdI M v1 l1) (h2 : RdI M v2 l2)(hb1 : l1.length ≤ 100000000) (hb2 : l2.length ≤ 100000000)  :
    Pu Tryz.prog (.func (.func 38) #[] #[]) M [.bool false, v1, v2] (fun r M' => ∃ t0 t1, r = .tuple #[t0, t1] ∧ (∃ p, t0 = .iface 116 p ∧ RdSU 145 M' p l1) ∧ (∃ p, t1 = .iface 116 p ∧ RdSU 145 M' p l2)) := by
  refine Pu_enter Tryz.func38 rfl Tryz.ntmps38 rfl Tryz.call38 ?_
  intro a w M1 H hM1 S E
  replace h1 := h1.le hM1
  replace h2 := h2.le hM1
  have b1 := h1.bound
  have b2 := h2.bound
  refine WP_seq ?_
  refine WP_region ?_
  refine S_v E rfl (R_assign E rfl) rfl ?_
  clear E a; intro a E
  refine S_v E rfl (R_assign E rfl) rfl ?_
  clear E a; intro a E
  refine WL_nil ?_
  refine T_n ?_
  refine WP_seq ?_
  refine WP_region ?_
  refine S_v E rfl (R_move E rfl) rfl ?_
  clear E a; intro a E
  refine S_v E rfl (R_move E rfl) rfl ?_
  clear E a; intro a E
  refine S_x (X_pu E S rfl rfl rfl (U_setOf h1 (by first | assumption | omega)) (Hp.le.refl _) ?_)
  clear E a S; rintro a _ w M_1 hM_1 ⟨v_2, rfl, hv_2⟩ S E
  replace h1 := h1.le hM_1
  replace h2 := h2.le hM_1
  refine S_v E rfl (R_move E rfl) rfl ?_
  clear E a; intro a E
  refine S_v E rfl (R_move E rfl) rfl ?_
  clear E a; intro a E
  refine S_x (X_pu E S rfl rfl rfl (U_setOf h2 (by first | assumption | omega)) (Hp.le.refl _) ?_)
  clear E a S; rintro a _ w M_3 hM_3 ⟨v_4, rfl, hv_4⟩ S E
  replace h1 := h1.le hM_3
  replace h2 := h2.le hM_3
  replace hv_2 := hv_2.le hM_3
  refine S_v E rfl (R_assign E rfl) rfl ?_
  clear E a; intro a E
  refine S_v E rfl (R_assign E rfl) rfl ?_
  clear E a; intro a E
  refine WL_nil ?_
  refine T_n ?_
  refine WP_ret ?_
  exact F_ret2 E Tryz.results38 rfl rfl ⟨_, rfl, M_3, (hM_1.trans hM_3), ⟨_, _, rfl, ⟨_, rfl, hv_2⟩, ⟨_, rfl, hv_4⟩⟩, S⟩

set_option maxRecDepth 100000 in
set_option maxHeartbeats 4000000 in
theorem U_Cardinality {M : Hp} {v0 : Value} {c0 : List Int} (h0 : RdSU 145 M v0 c0) (b0 : c0.length ≤ 1000000000)  :
    Pu Tryz.prog (.func (.func 205) #[] #[]) M [v0] (fun r M' => r = .int .i64 ((card c0 : Nat) : Int)) := by
  refine Pu_enter Tryz.func205 rfl Tryz.ntmps205 rfl Tryz.call205 ?_
  intro a w M1 H hM1 S E
  replace h0 := h0.le hM1
  refine WP_seq ?_
  refine WP_region ?_
  refine S_v E rfl (R_assign E rfl) rfl ?_
  clear E a; intro a E
  refine WL_nil ?_
  refine T_n ?_
  refine WP_seq ?_
  refine WP_region ?_
  refine S_v E rfl (R_move E rfl) rfl ?_
  clear E a; intro a E
  have hset := h0
  obtain ⟨sb0, sm0, sq0, se0, shb0, shm0, shn0, shq0⟩ := hset
  have shq0l : sq0.length ≤ c0.length := nodup_len shn0 fun z hz => (shq0 z).1 hz
  refine S_v E rfl (R_nilCheck E rfl se0) rfl ?_
  clear E a; intro a E
  refine S_v E rfl (R_loadM E (congrArg some se0) Tryz.isAgg145 S.imm (cellM_box shb0)) rfl ?_
  clear E a; intro a E
  refine S_v E rfl ((R_lenF S.imm shm0 E MT145 rfl).trans (by rw [encS_len])) rfl ?_
  clear E a; intro a E
  refine S_v E rfl (R_assign E rfl) rfl ?_
  clear E a; intro a E
  refine WL_nil ?_
  refine T_n ?_
  refine WP_ret ?_
  exact F_ret1 E Tryz.results205 rfl ⟨_, rfl, M1, (Hp.le.refl _), (congrArg (Value.int .i64) (by (congr 1; exact card_eq (by assumption) (by assumption)))), S⟩

set_option maxRecDepth 100000 in
set_option maxHeartbeats 4000000 in
theorem U_contains {M : Hp} {x1 : Int} {v0 : Value} {c0 : List Int} (h0 : RdSU 145 M v0 c0) (b0 : c0.length ≤ 1000000000)  :
    Pu Tryz.prog (.func (.func 207) #[] #[]) M [v0, .int .i64 x1] (fun r M' => r = .bool (decide (x1 ∈ c0))) := by
  refine Pu_enter Tryz.func207 rfl Tryz.ntmps207 rfl Tryz.call207 ?_
  intro a w M1 H hM1 S E
  replace h0 := h0.le hM1
  refine WP_seq ?_
  refine WP_region ?_
  refine S_v E rfl (R_assign E rfl) rfl ?_
  clear E a; intro a E
  refine WL_nil ?_
  refine T_n ?_
  refine WP_seq ?_
  refine WP_region ?_
  refine S_v E rfl (R_move E rfl) rfl ?_
  clear E a; intro a E
  have hset := h0
  obtain ⟨sb0, sm0, sq0, se0, shb0, shm0, shn0, shq0⟩ := hset
  have shq0l : sq0.length ≤ c0.length := nodup_len shn0 fun z hz => (shq0 z).1 hz
  refine S_v E rfl (R_nilCheck E rfl se0) rfl ?_
  clear E a; intro a E
  refine S_v E rfl (R_loadM E (congrArg some se0) Tryz.isAgg145 S.imm (cellM_box shb0)) rfl ?_
  clear E a; intro a E
  refine S_v E rfl (R_move E rfl) rfl ?_
  clear E a; intro a E
  refine S_v E rfl (R_lookupFS S.imm shm0 E MT145 rfl rfl) rfl ?_
  clear E a; intro a E
  refine S_v E rfl (R_move E rfl) rfl ?_
  clear E a; intro a E
  refine S_v E rfl (R_extract E rfl rfl) rfl ?_
  clear E a; intro a E
  refine S_v E rfl (R_extract E rfl rfl) rfl ?_
  clear E a; intro a E
  refine S_v E rfl (R_assign E rfl) rfl ?_
  clear E a; intro a E
  refine WL_nil ?_
  refine T_n ?_
  refine WP_seq ?_
  refine WP_region ?_
  refine S_v E rfl (R_move E rfl) rfl ?_
  clear E a; intro a E
  refine S_v E rfl (R_assign E rfl) rfl ?_
  clear E a; intro a E
  refine WL_nil ?_
  refine T_n ?_
  refine WP_ret ?_
  exact F_ret1 E Tryz.results207 rfl ⟨_, rfl, M1, (Hp.le.refl _), (congrArg Value.bool (by (simp [*]; done))), S⟩

set_option maxRecDepth 100000 in
set_option maxHeartbeats 4000000 in
theorem U_Equal {M : Hp} {v0 : Value} {c0 : List Int} (h0 : RdSU 145 M v0 c0) {v1 : Value} {c1 : List Int} (h1 : RdSU 145 M v1 c1) (b0 : c0.length ≤ 1000000000) (b1 : c1.length ≤ 1000000000)  :
    Pu Tryz.prog (.func (.func 194) #[] #[]) M [v0, .iface 116 v1] (fun r M' => r = .bool (sub' c0 c1 && sub' c1 c0)) := by
  refine Pu_enter Tryz.func194 rfl Tryz.ntmps194 rfl Tryz.call194 ?_
  intro a w M1 H hM1 S E
  replace h0 := h0.le hM1
  replace h1 := h1.le hM1
  have hcl0 := card_le c0
  have hcl1 := card_le c1
  refine WP_seq ?_
  refine WP_region ?_
  refine S_v E rfl (R_assign E rfl) rfl ?_
  clear E a; intro a E
  refine WL_nil ?_
  refine T_n ?_
  refine WP_seq ?_
  refine WP_region ?_
  refine S_v E rfl (R_move E rfl) rfl ?_
  clear E a; intro a E
  refine S_v E rfl (R_assert E rfl Tryz.underlying116 (by intro z hz; cases hz)) rfl ?_
  clear E a; intro a E
  refine S_v E rfl (R_assign E rfl) rfl ?_
  clear E a; intro a E
  refine WL_nil ?_
  refine T_n ?_
  refine WP_seq ?_
  refine WP_seq ?_
  refine WP_region ?_
  refine S_v E rfl (R_move E rfl) rfl ?_
  clear E a; intro a E
  refine S_x (X_pu E S rfl rfl rfl (U_Cardinality h0 (by first | assumption | omega)) (Hp.le.refl _) ?_)
  clear E a S; rintro a _ w M_1 hM_1 rfl S E
  replace h0 := h0.le hM_1
  replace h1 := h1.le hM_1
  refine S_v E rfl (R_move E rfl) rfl ?_
  clear E a; intro a E
  refine S_x (X_puI E S rfl rfl rfl (meth_116_Cardinality _ _) Tryz.call205 (U_Cardinality h1 (by first | assumption | omega)) (Hp.le.refl _) ?_)
  clear E a S; rintro a _ w M_2 hM_2 rfl S E
  replace h0 := h0.le hM_2
  replace h1 := h1.le hM_2
  refine S_v E rfl (R_neq E rfl rfl) rfl ?_
  clear E a; intro a E
  refine WL_nil ?_
  refine T_n ?_
  refine WP_cond E rfl (fun hc_3 => ?_) (fun hc_3 => ?_)
  · replace hc_3 := of_decide_eq_true hc_3
    refine WP_seq ?_
    refine WP_region ?_
    refine S_v E rfl (R_assign E rfl) rfl ?_
    clear E a; intro a E
    refine WL_nil ?_
    refine T_n ?_
    refine WP_ret ?_
    refine T_r ?_
    exact F_ret1 E Tryz.results194 rfl ⟨_, rfl, M_2, (hM_1.trans hM_2), (congrArg Value.bool (by (first | (have h9 := sub_t (by first | assumption | exact List.Perm.symm (by assumption)) shq0 (show ∀ z ∈ p, z ∈ c1 by assumption); rw [h9, sub_back h9 (by omega)]; rfl) | (rw [show sub' c0 c1 = false from (sub_f (k := _) (by assumption) shq0 (by simp_all))]; rfl) | (rcases Nat.lt_or_gt_of_ne (show card c0 ≠ card c1 by omega) with h9 | h9; (rw [sub_card h9, Bool.and_false]); (rw [sub_card h9]; rfl))))), S⟩
  · replace hc_3 := of_decide_eq_false hc_3
    refine WP_skip ?_
    refine T_n ?_
    refine WP_seq ?_
    refine WP_seq ?_
    refine WP_region ?_
    refine S_v E rfl (R_move E rfl) rfl ?_
    clear E a; intro a E
    have hset := h0
    obtain ⟨sb0, sm0, sq0, se0, shb0, shm0, shn0, shq0⟩ := hset
    have shq0l : sq0.length ≤ c0.length := nodup_len shn0 fun z hz => (shq0 z).1 hz
    refine S_v E rfl (R_nilCheck E rfl se0) rfl ?_
    clear E a; intro a E
    refine S_v E rfl (R_loadM E (congrArg some se0) Tryz.isAgg145 S.imm (cellM_box shb0)) rfl ?_
    clear E a; intro a E
    refine S_x (X_range E S rfl MT145 shm0 rfl ?_)
    clear E a S; rintro a w i_4 es_5 ck_6 E hf_7 S
    replace S : St w M_2 (ItO sm0 es_5 ck_6 i_4 (Sl.encS ([] : List Int)) :: _) := S
    refine WL_nil ?_
    refine T_n ?_
    refine WP_block ?_
    replace S := S.reIt (p' := (Sl.encS [])) (congrArg Sl.encS (show ([] : List Int) = [] by (first | rfl | (simp [addsL_snoc]; done) | (simp [addsL_snoc, List.filter_append, *]; done))))
    refine WP_loop (γ := List Int) (fun (p : List Int) a w => ∃ (M_8 : Hp), Hp.le M_2 M_8 ∧ St w M_8 (ItO sm0 es_5 ck_6 i_4 (Sl.encS p) :: H) ∧ Env a 26 [] [(5, v1), (17, .pointer (some ⟨i_4, 0, none⟩))] ∧ (p.Nodup) ∧ (∀ z ∈ p, z ∈ sq0) ∧ (p.length ≤ sq0.length) ∧ (∀ z ∈ p, z ∈ c1)) (fun p => sq0.length - p.length) [] ⟨M_2, Hp.le.refl _, S, E.keep ⟨rfl, rfl, trivial⟩, (by simp), (by simp), (by simp), (by simp)⟩ ?_
    try clear E
    try clear S
    try clear a
    try clear w
    rintro p a w ⟨M_8, hM_8, S, E, hL0_0, hL0_1, hL0_2, hL0_3⟩
    replace h0 := h0.le hM_8
    replace h1 := h1.le hM_8
    replace shb0 := hM_8.2 _ _ shb0
    replace shm0 := shm0.le hM_8
    replace hf_7 := hf_7.le hM_8
    refine WP_seq ?_
    refine WP_region ?_
    refine S_x (X_nextS E S rfl hf_7 rfl (by assumption) (by assumption) ?_ ?_)
    · clear E a S; rintro a E hpm_9 S
      refine S_v E rfl (R_extract E rfl rfl) rfl ?_
      clear E a; intro a E
      refine WL_nil ?_
      refine T_n ?_
      refine WP_seq ?_
      refine WP_condF E rfl rfl ?_
      refine WP_exit ?_
      refine T_x ?_
      refine T_x ?_
      refine B_x ?_
      refine T_n ?_
      refine WP_seq ?_
      refine WP_region ?_
      refine S_v E rfl (R_assign E rfl) rfl ?_
      clear E a; intro a E
      refine WL_nil ?_
      refine T_n ?_
      refine WP_ret ?_
      exact F_ret1 E Tryz.results194 rfl ⟨_, rfl, M_8, (hM_1.trans (hM_2.trans hM_8)), (congrArg Value.bool (by (first | (have h9 := sub_t (by first | assumption | exact List.Perm.symm (by assumption)) shq0 (show ∀ z ∈ p, z ∈ c1 by assumption); rw [h9, sub_back h9 (by omega)]; rfl) | (rw [show sub' c0 c1 = false from (sub_f (k := _) (by assumption) shq0 (by simp_all))]; rfl) | (rcases Nat.lt_or_gt_of_ne (show card c0 ≠ card c1 by omega) with h9 | h9; (rw [sub_card h9, Bool.and_false]); (rw [sub_card h9]; rfl))))), S.drop⟩
    · clear E a S w; rintro a w k_10 E hk_11 hk_11n hk_11l S
      refine S_v E rfl (R_extract E rfl rfl) rfl ?_
      clear E a; intro a E
      refine WL_nil ?_
      refine T_n ?_
      refine WP_seq ?_
      refine WP_condT E rfl rfl ?_
      refine WP_skip ?_
      refine T_n ?_
      refine WP_block ?_
      refine WP_seq ?_
      refine WP_region ?_
      refine S_v E rfl (R_entry (k := k_10) (v := .agg #[]) E (by have S1 := S; simp only [Sl.encS, List.map_append, List.map_cons, List.map_nil] at S1; exact S1) hf_7 rfl) rfl ?_
      clear E a; intro a E
      refine S_v E rfl (R_extract E rfl rfl) rfl ?_
      clear E a; intro a E
      refine S_v E rfl (R_assign E rfl) rfl ?_
      clear E a; intro a E
      refine WL_nil ?_
      refine T_n ?_
      refine WP_seq ?_
      refine WP_region ?_
      refine S_v E rfl (R_move E rfl) rfl ?_
      clear E a; intro a E
      refine S_v E rfl (R_move E rfl) rfl ?_
      clear E a; intro a E
      refine S_x (X_pu E S rfl rfl rfl (U_contains h1 (by first | assumption | omega)) (Hp.le.refl _) ?_)
      clear E a S; rintro a _ w M_12 hM_12 rfl S E
      replace h0 := h0.le hM_12
      replace h1 := h1.le hM_12
      replace shb0 := hM_12.2 _ _ shb0
      replace shm0 := shm0.le hM_12
      replace hf_7 := hf_7.le hM_12
      refine S_v E rfl (R_not E rfl) rfl ?_
      clear E a; intro a E
      refine WL_nil ?_
      refine T_n ?_
      refine WP_cond E rfl (fun hc_13 => ?_) (fun hc_13 => ?_)
      · refine WP_seq ?_
        refine WP_region ?_
        refine S_v E rfl (R_assign E rfl) rfl ?_
        clear E a; intro a E
        refine WL_nil ?_
        refine T_n ?_
        refine WP_ret ?_
        refine B_r ?_
        refine T_r ?_
        refine B_r ?_
        refine T_r ?_
        exact F_ret1 E Tryz.results194 rfl ⟨_, rfl, M_12, (hM_1.trans (hM_2.trans (hM_8.trans hM_12))), (congrArg Value.bool (by (first | (have h9 := sub_t (by first | assumption | exact List.Perm.symm (by assumption)) shq0 (show ∀ z ∈ p, z ∈ c1 by assumption); rw [h9, sub_back h9 (by omega)]; rfl) | (rw [show sub' c0 c1 = false from (sub_f (k := _) (by assumption) shq0 (by simp_all))]; rfl) | (rcases Nat.lt_or_gt_of_ne (show card c0 ≠ card c1 by omega) with h9 | h9; (rw [sub_card h9, Bool.and_false]); (rw [sub_card h9]; rfl))))), S.drop⟩
      · refine WP_skip ?_
        refine B_n ?_
        refine T_n ?_
        replace S := S.reIt (p' := (Sl.encS (p ++ [k_10]))) (congrArg Sl.encS (show p ++ [k_10] = (p ++ [k_10]) by (first | rfl | (simp [addsL_snoc]; done) | (simp [addsL_snoc, List.filter_append, *]; done))))
        exact ⟨(p ++ [k_10]), ⟨M_12, (hM_8.trans hM_12), S, E.keep ⟨rfl, rfl, trivial⟩, (by exact snocN (by assumption) (by assumption)), (by exact snocS (by assumption) (by assumption)), (by simp; omega), (by exact snocP (Q := fun z => z ∈ c1) (by assumption) (by first | assumption | (simp_all; done)))⟩, (by simp; omega)⟩

set_option maxRecDepth 100000 in
set_option maxHeartbeats 4000000 in
theorem U_IsSubset {M : Hp} {v0 : Value} {c0 : List Int} (h0 : RdSU 145 M v0 c0) {v1 : Value} {c1 : List Int} (h1 : RdSU 145 M v1 c1) (b0 : c0.length ≤ 1000000000) (b1 : c1.length ≤ 1000000000)  :
    Pu Tryz.prog (.func (.func 197) #[] #[]) M [v0, .iface 116 v1] (fun r M' => r = .bool (sub' c0 c1)) := by
  refine Pu_enter Tryz.func197 rfl Tryz.ntmps197 rfl Tryz.call197 ?_
  intro a w M1 H hM1 S E
  replace h0 := h0.le hM1
  replace h1 := h1.le hM1
  have hcl0 := card_le c0
  have hcl1 := card_le c1
  refine WP_seq ?_
  refine WP_region ?_
  refine S_v E rfl (R_assign E rfl) rfl ?_
  clear E a; intro a E
  refine WL_nil ?_
  refine T_n ?_
  refine WP_seq ?_
  refine WP_region ?_
  refine S_v E rfl (R_move E rfl) rfl ?_
  clear E a; intro a E
  refine S_v E rfl (R_assert E rfl Tryz.underlying116 (by intro z hz; cases hz)) rfl ?_
  clear E a; intro a E
  refine S_v E rfl (R_assign E rfl) rfl ?_
  clear E a; intro a E
  refine WL_nil ?_
  refine T_n ?_
  refine WP_seq ?_
  refine WP_seq ?_
  refine WP_region ?_
  refine S_v E rfl (R_move E rfl) rfl ?_
  clear E a; intro a E
  refine S_x (X_pu E S rfl rfl rfl (U_Cardinality h0 (by first | assumption | omega)) (Hp.le.refl _) ?_)
  clear E a S; rintro a _ w M_1 hM_1 rfl S E
  replace h0 := h0.le hM_1
  replace h1 := h1.le hM_1
  refine S_v E rfl (R_move E rfl) rfl ?_
  clear E a; intro a E
  refine S_x (X_puI E S rfl rfl rfl (meth_116_Cardinality _ _) Tryz.call205 (U_Cardinality h1 (by first | assumption | omega)) (Hp.le.refl _) ?_)
  clear E a S; rintro a _ w M_2 hM_2 rfl S E
  replace h0 := h0.le hM_2
  replace h1 := h1.le hM_2
  refine S_v E rfl (R_gtr E rfl rfl) rfl ?_
  clear E a; intro a E
  refine WL_nil ?_
  refine T_n ?_
  refine WP_cond E rfl (fun hc_3 => ?_) (fun hc_3 => ?_)
  · replace hc_3 := of_decide_eq_true hc_3
    refine WP_seq ?_
    refine WP_region ?_
    refine S_v E rfl (R_assign E rfl) rfl ?_
    clear E a; intro a E
    refine WL_nil ?_
    refine T_n ?_
    refine WP_ret ?_
    refine T_r ?_
    exact F_ret1 E Tryz.results197 rfl ⟨_, rfl, M_2, (hM_1.trans hM_2), (congrArg Value.bool (by (first | exact (sub_t (by first | assumption | exact List.Perm.symm (by assumption)) shq0 (by assumption)).symm | exact (sub_f (k := _) (by assumption) shq0 (by simp_all)).symm | exact (sub_card (by omega)).symm))), S⟩
  · replace hc_3 := of_decide_eq_false hc_3
    refine WP_skip ?_
    refine T_n ?_
    refine WP_seq ?_
    refine WP_seq ?_
    refine WP_region ?_
    refine S_v E rfl (R_move E rfl) rfl ?_
    clear E a; intro a E
    have hset := h0
    obtain ⟨sb0, sm0, sq0, se0, shb0, shm0, shn0, shq0⟩ := hset
    have shq0l : sq0.length ≤ c0.length := nodup_len shn0 fun z hz => (shq0 z).1 hz
    refine S_v E rfl (R_nilCheck E rfl se0) rfl ?_
    clear E a; intro a E
    refine S_v E rfl (R_loadM E (congrArg some se0) Tryz.isAgg145 S.imm (cellM_box shb0)) rfl ?_
    clear E a; intro a E
    refine S_x (X_range E S rfl MT145 shm0 rfl ?_)
    clear E a S; rintro a w i_4 es_5 ck_6 E hf_7 S
    replace S : St w M_2 (ItO sm0 es_5 ck_6 i_4 (Sl.encS ([] : List Int)) :: _) := S
    refine WL_nil ?_
    refine T_n ?_
    refine WP_block ?_
    replace S := S.reIt (p' := (Sl.encS [])) (congrArg Sl.encS (show ([] : List Int) = [] by (first | rfl | (simp [addsL_snoc]; done) | (simp [addsL_snoc, List.filter_append, *]; done))))
    refine WP_loop (γ := List Int) (fun (p : List Int) a w => ∃ (M_8 : Hp), Hp.le M_2 M_8 ∧ St w M_8 (ItO sm0 es_5 ck_6 i_4 (Sl.encS p) :: H) ∧ Env a 26 [] [(5, v1), (17, .pointer (some ⟨i_4, 0, none⟩))] ∧ (p.Nodup) ∧ (∀ z ∈ p, z ∈ sq0) ∧ (p.length ≤ sq0.length) ∧ (∀ z ∈ p, z ∈ c1)) (fun p => sq0.length - p.length) [] ⟨M_2, Hp.le.refl _, S, E.keep ⟨rfl, rfl, trivial⟩, (by simp), (by simp), (by simp), (by simp)⟩ ?_
    try clear E
    try clear S
    try clear a
    try clear w
    rintro p a w ⟨M_8, hM_8, S, E, hL0_0, hL0_1, hL0_2, hL0_3⟩
    replace h0 := h0.le hM_8
    replace h1 := h1.le hM_8
    replace shb0 := hM_8.2 _ _ shb0
    replace shm0 := shm0.le hM_8
    replace hf_7 := hf_7.le hM_8
    refine WP_seq ?_
    refine WP_region ?_
    refine S_x (X_nextS E S rfl hf_7 rfl (by assumption) (by assumption) ?_ ?_)
    · clear E a S; rintro a E hpm_9 S
      refine S_v E rfl (R_extract E rfl rfl) rfl ?_
      clear E a; intro a E
      refine WL_nil ?_
      refine T_n ?_
      refine WP_seq ?_
      refine WP_condF E rfl rfl ?_
      refine WP_exit ?_
      refine T_x ?_
      refine T_x ?_
      refine B_x ?_
      refine T_n ?_
      refine WP_seq ?_
      refine WP_region ?_
      refine S_v E rfl (R_assign E rfl) rfl ?_
      clear E a; intro a E
      refine WL_nil ?_
      refine T_n ?_
      refine WP_ret ?_
      exact F_ret1 E Tryz.results197 rfl ⟨_, rfl, M_8, (hM_1.trans (hM_2.trans hM_8)), (congrArg Value.bool (by (first | exact (sub_t (by first | assumption | exact List.Perm.symm (by assumption)) shq0 (by assumption)).symm | exact (sub_f (k := _) (by assumption) shq0 (by simp_all)).symm | exact (sub_card (by omega)).symm))), S.drop⟩
    · clear E a S w; rintro a w k_10 E hk_11 hk_11n hk_11l S
      refine S_v E rfl (R_extract E rfl rfl) rfl ?_
      clear E a; intro a E
      refine WL_nil ?_
      refine T_n ?_
      refine WP_seq ?_
      refine WP_condT E rfl rfl ?_
      refine WP_skip ?_
      refine T_n ?_
      refine WP_block ?_
      refine WP_seq ?_
      refine WP_region ?_
      refine S_v E rfl (R_entry (k := k_10) (v := .agg #[]) E (by have S1 := S; simp only [Sl.encS, List.map_append, List.map_cons, List.map_nil] at S1; exact S1) hf_7 rfl) rfl ?_
      clear E a; intro a E
      refine S_v E rfl (R_extract E rfl rfl) rfl ?_
      clear E a; intro a E
      refine S_v E rfl (R_assign E rfl) rfl ?_
      clear E a; intro a E
      refine WL_nil ?_
      refine T_n ?_
      refine WP_seq ?_
      refine WP_region ?_
      refine S_v E rfl (R_move E rfl) rfl ?_
      clear E a; intro a E
      refine S_v E rfl (R_move E rfl) rfl ?_
      clear E a; intro a E
      refine S_x (X_pu E S rfl rfl rfl (U_contains h1 (by first | assumption | omega)) (Hp.le.refl _) ?_)
      clear E a S; rintro a _ w M_12 hM_12 rfl S E
      replace h0 := h0.le hM_12
      replace h1 := h1.le hM_12
      replace shb0 := hM_12.2 _ _ shb0
      replace shm0 := shm0.le hM_12
      replace hf_7 := hf_7.le hM_12
      refine S_v E rfl (R_not E rfl) rfl ?_
      clear E a; intro a E
      refine WL_nil ?_
      refine T_n ?_
      refine WP_cond E rfl (fun hc_13 => ?_) (fun hc_13 => ?_)
      · refine WP_seq ?_
        refine WP_region ?_
        refine S_v E rfl (R_assign E rfl) rfl ?_
        clear E a; intro a E
        refine WL_nil ?_
        refine T_n ?_
        refine WP_ret ?_
        refine B_r ?_
        refine T_r ?_
        refine B_r ?_
        refine T_r ?_
        exact F_ret1 E Tryz.results197 rfl ⟨_, rfl, M_12, (hM_1.trans (hM_2.trans (hM_8.trans hM_12))), (congrArg Value.bool (by (first | exact (sub_t (by first | assumption | exact List.Perm.symm (by assumption)) shq0 (by assumption)).symm | exact (sub_f (k := _) (by assumption) shq0 (by simp_all)).symm | exact (sub_card (by omega)).symm))), S.drop⟩
      · refine WP_skip ?_
        refine B_n ?_
        refine T_n ?_
        replace S := S.reIt (p' := (Sl.encS (p ++ [k_10]))) (congrArg Sl.encS (show p ++ [k_10] = (p ++ [k_10]) by (first | rfl | (simp [addsL_snoc]; done) | (simp [addsL_snoc, List.filter_append, *]; done))))
        exact ⟨(p ++ [k_10]), ⟨M_12, (hM_8.trans hM_12), S, E.keep ⟨rfl, rfl, trivial⟩, (by exact snocN (by assumption) (by assumption)), (by exact snocS (by assumption) (by assumption)), (by simp; omega), (by exact snocP (Q := fun z => z ∈ c1) (by assumption) (by first | assumption | (simp_all; done)))⟩, (by simp; omega)⟩

set_option maxRecDepth 100000 in
set_option maxHeartbeats 4000000 in
theorem U_IsProperSubset {M : Hp} {v0 : Value} {c0 : List Int} (h0 : RdSU 145 M v0 c0) {v1 : Value} {c1 : List Int} (h1 : RdSU 145 M v1 c1) (b0 : c0.length ≤ 1000000000) (b1 : c1.length ≤ 1000000000)  :
    Pu Tryz.prog (.func (.func 196) #[] #[]) M [v0, .iface 116 v1] (fun r M' => r = .bool ((decide (card c0 < card c1)) && sub' c0 c1)) := by
  refine Pu_enter Tryz.func196 rfl Tryz.ntmps196 rfl Tryz.call196 ?_
  intro a w M1 H hM1 S E
  replace h0 := h0.le hM1
  replace h1 := h1.le hM1
  have hcl0 := card_le c0
  have hcl1 := card_le c1
  refine WP_seq ?_
  refine WP_region ?_
  refine S_v E rfl (R_assign E rfl) rfl ?_
  clear E a; intro a E
  refine WL_nil ?_
  refine T_n ?_
  refine WP_seq ?_
  refine WP_region ?_
  refine S_v E rfl (R_move E rfl) rfl ?_
  clear E a; intro a E
  refine S_x (X_pu E S rfl rfl rfl (U_Cardinality h0 (by first | assumption | omega)) (Hp.le.refl _) ?_)
  clear E a S; rintro a _ w M_1 hM_1 rfl S E
  replace h0 := h0.le hM_1
  replace h1 := h1.le hM_1
  refine S_v E rfl (R_move E rfl) rfl ?_
  clear E a; intro a E
  refine S_x (X_puI E S rfl rfl rfl (meth_116_Cardinality _ _) Tryz.call205 (U_Cardinality h1 (by first | assumption | omega)) (Hp.le.refl _) ?_)
  clear E a S; rintro a _ w M_2 hM_2 rfl S E
  replace h0 := h0.le hM_2
  replace h1 := h1.le hM_2
  refine S_v E rfl (R_lss E rfl rfl) rfl ?_
  clear E a; intro a E
  refine S_v E rfl (R_move E rfl) rfl ?_
  clear E a; intro a E
  refine split_bool (decide (((card c0 : Nat) : Int) < ((card c1 : Nat) : Int))) (fun hc_3 => ?_) (fun hc_3 => ?_)
  · replace E := E.val (t := 9) rfl hc_3
    replace E := E.val (t := 10) rfl hc_3
    replace hc_3 := of_decide_eq_true hc_3
    refine WL_guard_yes E rfl rfl ?_
    refine S_v E rfl (R_move E rfl) rfl ?_
    clear E a; intro a E
    refine WL_guard_yes E rfl rfl ?_
    refine S_v E rfl (R_move E rfl) rfl ?_
    clear E a; intro a E
    refine WL_guard_yes E rfl rfl ?_
    refine S_x (X_pu E S rfl rfl rfl (U_IsSubset h0 h1 (by first | assumption | omega) (by first | assumption | omega)) (Hp.le.refl _) ?_)
    clear E a S; rintro a _ w M_4 hM_4 rfl S E
    replace h0 := h0.le hM_4
    replace h1 := h1.le hM_4
    refine S_v E rfl (R_pickT E rfl rfl) rfl ?_
    clear E a; intro a E
    refine S_v E rfl (R_assign E rfl) rfl ?_
    clear E a; intro a E
    refine WL_nil ?_
    refine T_n ?_
    refine WP_ret ?_
    exact F_ret1 E Tryz.results196 rfl ⟨_, rfl, M_4, (hM_1.trans (hM_2.trans hM_4)), (congrArg Value.bool (by (first | rfl | (simp_all; done) | (rw [decide_eq_false (by omega)]; rfl) | (rw [decide_eq_true (by omega), Bool.true_and])))), S⟩
  · replace E := E.val (t := 9) rfl hc_3
    replace E := E.val (t := 10) rfl hc_3
    replace hc_3 := of_decide_eq_false hc_3
    refine WL_guard_no E rfl rfl rfl rfl fun a E => ?_
    refine WL_guard_no E rfl rfl rfl rfl fun a E => ?_
    refine WL_guard_no E rfl rfl rfl rfl fun a E => ?_
    refine S_v E rfl (R_pickF E rfl rfl) rfl ?_
    clear E a; intro a E
    refine S_v E rfl (R_assign E rfl) rfl ?_
    clear E a; intro a E
    refine WL_nil ?_
    refine T_n ?_
    refine WP_ret ?_
    exact F_ret1 E Tryz.results196 rfl ⟨_, rfl, M_2, (hM_1.trans hM_2), (congrArg Value.bool (by (first | rfl | (simp_all; done) | (rw [decide_eq_false (by omega)]; rfl) | (rw [decide_eq_true (by omega), Bool.true_and])))), S⟩

set_option maxRecDepth 100000 in
set_option maxHeartbeats 4000000 in
theorem U_IsSuperset {M : Hp} {v0 : Value} {c0 : List Int} (h0 : RdSU 145 M v0 c0) {v1 : Value} {c1 : List Int} (h1 : RdSU 145 M v1 c1) (b0 : c0.length ≤ 1000000000) (b1 : c1.length ≤ 1000000000)  :
    Pu Tryz.prog (.func (.func 211) #[] #[]) M [v0, .iface 116 v1] (fun r M' => r = .bool (sub' c1 c0)) := by
  refine Pu_enter Tryz.func211 rfl Tryz.ntmps211 rfl Tryz.call211 ?_
  intro a w M1 H hM1 S E
  replace h0 := h0.le hM1
  replace h1 := h1.le hM1
  have hcl0 := card_le c0
  have hcl1 := card_le c1
  refine WP_seq ?_
  refine WP_region ?_
  refine S_v E rfl (R_assign E rfl) rfl ?_
  clear E a; intro a E
  refine WL_nil ?_
  refine T_n ?_
  refine WP_seq ?_
  refine WP_region ?_
  refine S_v E rfl (R_move E rfl) rfl ?_
  clear E a; intro a E
  refine S_v E rfl (R_move E rfl) rfl ?_
  clear E a; intro a E
  refine S_v E rfl (R_ifaceP E rfl Tryz.underlying116) rfl ?_
  clear E a; intro a E
  refine S_x (X_puI E S rfl rfl rfl (meth_116_IsSubset _ _) Tryz.call197 (U_IsSubset h1 h0 (by first | assumption | omega) (by first | assumption | omega)) (Hp.le.refl _) ?_)
  clear E a S; rintro a _ w M_1 hM_1 rfl S E
  replace h0 := h0.le hM_1
  replace h1 := h1.le hM_1
  refine S_v E rfl (R_assign E rfl) rfl ?_
  clear E a; intro a E
  refine WL_nil ?_
  refine T_n ?_
  refine WP_ret ?_
  exact F_ret1 E Tryz.results211 rfl ⟨_, rfl, M_1, hM_1, rfl, S⟩

set_option maxRecDepth 100000 in
set_option maxHeartbeats 4000000 in
theorem U_IsProperSuperset {M : Hp} {v0 : Value} {c0 : List Int} (h0 : RdSU 145 M v0 c0) {v1 : Value} {c1 : List Int} (h1 : RdSU 145 M v1 c1) (b0 : c0.length ≤ 1000000000) (b1 : c1.length ≤ 1000000000)  :
    Pu Tryz.prog (.func (.func 210) #[] #[]) M [v0, .iface 116 v1] (fun r M' => r = .bool ((decide (card c1 < card c0)) && sub' c1 c0)) := by
  refine Pu_enter Tryz.func210 rfl Tryz.ntmps210 rfl Tryz.call210 ?_
  intro a w M1 H hM1 S E
  replace h0 := h0.le hM1
  replace h1 := h1.le hM1
  have hcl0 := card_le c0
  have hcl1 := card_le c1
  refine WP_seq ?_
  refine WP_region ?_
  refine S_v E rfl (R_assign E rfl) rfl ?_
  clear E a; intro a E
  refine WL_nil ?_
  refine T_n ?_
  refine WP_seq ?_
  refine WP_region ?_
  refine S_v E rfl (R_move E rfl) rfl ?_
  clear E a; intro a E
  refine S_x (X_pu E S rfl rfl rfl (U_Cardinality h0 (by first | assumption | omega)) (Hp.le.refl _) ?_)
  clear E a S; rintro a _ w M_1 hM_1 rfl S E
  replace h0 := h0.le hM_1
  replace h1 := h1.le hM_1
  refine S_v E rfl (R_move E rfl) rfl ?_
  clear E a; intro a E
  refine S_x (X_puI E S rfl rfl rfl (meth_116_Cardinality _ _) Tryz.call205 (U_Cardinality h1 (by first | assumption | omega)) (Hp.le.refl _) ?_)
  clear E a S; rintro a _ w M_2 hM_2 rfl S E
  replace h0 := h0.le hM_2
  replace h1 := h1.le hM_2
  refine S_v E rfl (R_gtr E rfl rfl) rfl ?_
  clear E a; intro a E
  refine S_v E rfl (R_move E rfl) rfl ?_
  clear E a; intro a E
  refine split_bool (decide (((card c1 : Nat) : Int) < ((card c0 : Nat) : Int))) (fun hc_3 => ?_) (fun hc_3 => ?_)
  · replace E := E.val (t := 9) rfl hc_3
    replace E := E.val (t := 10) rfl hc_3
    replace hc_3 := of_decide_eq_true hc_3
    refine WL_guard_yes E rfl rfl ?_
    refine S_v E rfl (R_move E rfl) rfl ?_
    clear E a; intro a E
    refine WL_guard_yes E rfl rfl ?_
    refine S_v E rfl (R_move E rfl) rfl ?_
    clear E a; intro a E
    refine WL_guard_yes E rfl rfl ?_
    refine S_x (X_pu E S rfl rfl rfl (U_IsSuperset h0 h1 (by first | assumption | omega) (by first | assumption | omega)) (Hp.le.refl _) ?_)
    clear E a S; rintro a _ w M_4 hM_4 rfl S E
    replace h0 := h0.le hM_4
    replace h1 := h1.le hM_4
    refine S_v E rfl (R_pickT E rfl rfl) rfl ?_
    clear E a; intro a E
    refine S_v E rfl (R_assign E rfl) rfl ?_
    clear E a; intro a E
    refine WL_nil ?_
    refine T_n ?_
    refine WP_ret ?_
    exact F_ret1 E Tryz.results210 rfl ⟨_, rfl, M_4, (hM_1.trans (hM_2.trans hM_4)), (congrArg Value.bool (by (first | rfl | (simp_all; done) | (rw [decide_eq_false (by omega)]; rfl) | (rw [decide_eq_true (by omega), Bool.true_and])))), S⟩
  · replace E := E.val (t := 9) rfl hc_3
    replace E := E.val (t := 10) rfl hc_3
    replace hc_3 := of_decide_eq_false hc_3
    refine WL_guard_no E rfl rfl rfl rfl fun a E => ?_
    refine WL_guard_no E rfl rfl rfl rfl fun a E => ?_
    refine WL_guard_no E rfl rfl rfl rfl fun a E => ?_
    refine S_v E rfl (R_pickF E rfl rfl) rfl ?_
    clear E a; intro a E
    refine S_v E rfl (R_assign E rfl) rfl ?_
    clear E a; intro a E
    refine WL_nil ?_
    refine T_n ?_
    refine WP_ret ?_
    exact F_ret1 E Tryz.results210 rfl ⟨_, rfl, M_2, (hM_1.trans hM_2), (congrArg Value.bool (by (first | rfl | (simp_all; done) | (rw [decide_eq_false (by omega)]; rfl) | (rw [decide_eq_true (by omega), Bool.true_and])))), S⟩

set_option maxRecDepth 100000 in
set_option maxHeartbeats 4000000 in
theorem U_ContainsAnyElement {M : Hp} {v0 : Value} {c0 : List Int} (h0 : RdSU 145 M v0 c0) {v1 : Value} {c1 : List Int} (h1 : RdSU 145 M v1 c1) (b0 : c0.length ≤ 1000000000) (b1 : c1.length ≤ 1000000000)  :
    Pu Tryz.prog (.func (.func 191) #[] #[]) M [v0, .iface 116 v1] (fun r M' => r = .bool (any' c0 c1)) := by
  refine Pu_enter Tryz.func191 rfl Tryz.ntmps191 rfl Tryz.call191 ?_
  intro a w M1 H hM1 S E
  replace h0 := h0.le hM1
  replace h1 := h1.le hM1
  have hcl0 := card_le c0
  have hcl1 := card_le c1
  refine WP_seq ?_
  refine WP_region ?_
  refine S_v E rfl (R_assign E rfl) rfl ?_
  clear E a; intro a E
  refine WL_nil ?_
  refine T_n ?_
  refine WP_seq ?_
  refine WP_region ?_
  refine S_v E rfl (R_move E rfl) rfl ?_
  clear E a; intro a E
  refine S_v E rfl (R_assert E rfl Tryz.underlying116 (by intro z hz; cases hz)) rfl ?_
  clear E a; intro a E
  refine S_v E rfl (R_assign E rfl) rfl ?_
  clear E a; intro a E
  refine WL_nil ?_
  refine T_n ?_
  refine WP_seq ?_
  refine WP_seq ?_
  refine WP_region ?_
  refine S_v E rfl (R_move E rfl) rfl ?_
  clear E a; intro a E
  refine S_x (X_pu E S rfl rfl rfl (U_Cardinality h0 (by first | assumption | omega)) (Hp.le.refl _) ?_)
  clear E a S; rintro a _ w M_1 hM_1 rfl S E
  replace h0 := h0.le hM_1
  replace h1 := h1.le hM_1
  refine S_v E rfl (R_move E rfl) rfl ?_
  clear E a; intro a E
  refine S_x (X_puI E S rfl rfl rfl (meth_116_Cardinality _ _) Tryz.call205 (U_Cardinality h1 (by first | assumption | omega)) (Hp.le.refl _) ?_)
  clear E a S; rintro a _ w M_2 hM_2 rfl S E
  replace h0 := h0.le hM_2
  replace h1 := h1.le hM_2
  refine S_v E rfl (R_lss E rfl rfl) rfl ?_
  clear E a; intro a E
  refine WL_nil ?_
  refine T_n ?_
  refine WP_cond E rfl (fun hc_3 => ?_) (fun hc_3 => ?_)
  · replace hc_3 := of_decide_eq_true hc_3
    refine WP_seq ?_
    refine WP_region ?_
    refine S_v E rfl (R_move E rfl) rfl ?_
    clear E a; intro a E
    have hset := h0
    obtain ⟨sb0, sm0, sq0, se0, shb0, shm0, shn0, shq0⟩ := hset
    have shq0l : sq0.length ≤ c0.length := nodup_len shn0 fun z hz => (shq0 z).1 hz
    refine S_v E rfl (R_nilCheck E rfl se0) rfl ?_
    clear E a; intro a E
    refine S_v E rfl (R_loadM E (congrArg some se0) Tryz.isAgg145 S.imm (cellM_box shb0)) rfl ?_
    clear E a; intro a E
    refine S_x (X_range E S rfl MT145 shm0 rfl ?_)
    clear E a S; rintro a w i_4 es_5 ck_6 E hf_7 S
    replace S : St w M_2 (ItO sm0 es_5 ck_6 i_4 (Sl.encS ([] : List Int)) :: _) := S
    refine WL_nil ?_
    refine T_n ?_
    refine WP_block ?_
    replace S := S.reIt (p' := (Sl.encS [])) (congrArg Sl.encS (show ([] : List Int) = [] by (first | rfl | (simp [addsL_snoc]; done) | (simp [addsL_snoc, List.filter_append, *]; done))))
    refine WP_loop (γ := List Int) (fun (p : List Int) a w => ∃ (M_8 : Hp), Hp.le M_2 M_8 ∧ St w M_8 (ItO sm0 es_5 ck_6 i_4 (Sl.encS p) :: H) ∧ Env a 37 [] [(5, v1), (18, .pointer (some ⟨i_4, 0, none⟩))] ∧ (p.Nodup) ∧ (∀ z ∈ p, z ∈ sq0) ∧ (p.length ≤ sq0.length) ∧ (∀ z ∈ p, z ∉ c1)) (fun p => sq0.length - p.length) [] ⟨M_2, Hp.le.refl _, S, E.keep ⟨rfl, rfl, trivial⟩, (by simp), (by simp), (by simp), (by simp)⟩ ?_
    try clear E
    try clear S
    try clear a
    try clear w
    rintro p a w ⟨M_8, hM_8, S, E, hL0_0, hL0_1, hL0_2, hL0_3⟩
    replace h0 := h0.le hM_8
    replace h1 := h1.le hM_8
    replace shb0 := hM_8.2 _ _ shb0
    replace shm0 := shm0.le hM_8
    replace hf_7 := hf_7.le hM_8
    refine WP_seq ?_
    refine WP_region ?_
    refine S_x (X_nextS E S rfl hf_7 rfl (by assumption) (by assumption) ?_ ?_)
    · clear E a S; rintro a E hpm_9 S
      refine S_v E rfl (R_extract E rfl rfl) rfl ?_
      clear E a; intro a E
      refine WL_nil ?_
      refine T_n ?_
      refine WP_seq ?_
      refine WP_condF E rfl rfl ?_
      refine WP_exit ?_
      refine T_x ?_
      refine T_x ?_
      refine B_x ?_
      refine T_n ?_
      refine WP_seq ?_
      refine WP_region ?_
      refine S_v E rfl (R_assign E rfl) rfl ?_
      clear E a; intro a E
      refine WL_nil ?_
      refine T_n ?_
      refine WP_ret ?_
      exact F_ret1 E Tryz.results191 rfl ⟨_, rfl, M_8, (hM_1.trans (hM_2.trans hM_8)), (congrArg Value.bool (by (first | exact (any_f (by first | assumption | exact List.Perm.symm (by assumption)) shq0 (by assumption)).symm | exact ((any_comm c0 c1).trans (any_f (by first | assumption | exact List.Perm.symm (by assumption)) shq1 (by assumption))).symm | exact (any_t (k := _) (by assumption) shq0 (by simp_all)).symm | exact ((any_comm c0 c1).trans (any_t (k := _) (by assumption) shq1 (by simp_all))).symm))), S.drop⟩
    · clear E a S w; rintro a w k_10 E hk_11 hk_11n hk_11l S
      refine S_v E rfl (R_extract E rfl rfl) rfl ?_
      clear E a; intro a E
      refine WL_nil ?_
      refine T_n ?_
      refine WP_seq ?_
      refine WP_condT E rfl rfl ?_
      refine WP_skip ?_
      refine T_n ?_
      refine WP_block ?_
      refine WP_seq ?_
      refine WP_region ?_
      refine S_v E rfl (R_entry (k := k_10) (v := .agg #[]) E (by have S1 := S; simp only [Sl.encS, List.map_append, List.map_cons, List.map_nil] at S1; exact S1) hf_7 rfl) rfl ?_
      clear E a; intro a E
      refine S_v E rfl (R_extract E rfl rfl) rfl ?_
      clear E a; intro a E
      refine S_v E rfl (R_assign E rfl) rfl ?_
      clear E a; intro a E
      refine WL_nil ?_
      refine T_n ?_
      refine WP_seq ?_
      refine WP_region ?_
      refine S_v E rfl (R_move E rfl) rfl ?_
      clear E a; intro a E
      refine S_v E rfl (R_move E rfl) rfl ?_
      clear E a; intro a E
      refine S_x (X_pu E S rfl rfl rfl (U_contains h1 (by first | assumption | omega)) (Hp.le.refl _) ?_)
      clear E a S; rintro a _ w M_12 hM_12 rfl S E
      replace h0 := h0.le hM_12
      replace h1 := h1.le hM_12
      replace shb0 := hM_12.2 _ _ shb0
      replace shm0 := shm0.le hM_12
      replace hf_7 := hf_7.le hM_12
      refine WL_nil ?_
      refine T_n ?_
      refine WP_cond E rfl (fun hc_13 => ?_) (fun hc_13 => ?_)
      · replace hc_13 := of_decide_eq_true hc_13
        refine WP_seq ?_
        refine WP_region ?_
        refine S_v E rfl (R_assign E rfl) rfl ?_
        clear E a; intro a E
        refine WL_nil ?_
        refine T_n ?_
        refine WP_ret ?_
        refine B_r ?_
        refine T_r ?_
        refine B_r ?_
        refine T_r ?_
        exact F_ret1 E Tryz.results191 rfl ⟨_, rfl, M_12, (hM_1.trans (hM_2.trans (hM_8.trans hM_12))), (congrArg Value.bool (by (first | exact (any_f (by first | assumption | exact List.Perm.symm (by assumption)) shq0 (by assumption)).symm | exact ((any_comm c0 c1).trans (any_f (by first | assumption | exact List.Perm.symm (by assumption)) shq1 (by assumption))).symm | exact (any_t (k := _) (by assumption) shq0 (by simp_all)).symm | exact ((any_comm c0 c1).trans (any_t (k := _) (by assumption) shq1 (by simp_all))).symm))), S.drop⟩
      · replace hc_13 := of_decide_eq_false hc_13
        refine WP_skip ?_
        refine B_n ?_
        refine T_n ?_
        replace S := S.reIt (p' := (Sl.encS (p ++ [k_10]))) (congrArg Sl.encS (show p ++ [k_10] = (p ++ [k_10]) by (first | rfl | (simp [addsL_snoc]; done) | (simp [addsL_snoc, List.filter_append, *]; done))))
        exact ⟨(p ++ [k_10]), ⟨M_12, (hM_8.trans hM_12), S, E.keep ⟨rfl, rfl, trivial⟩, (by exact snocN (by assumption) (by assumption)), (by exact snocS (by assumption) (by assumption)), (by simp; omega), (by exact snocP (Q := fun z => z ∉ c1) (by assumption) (by first | assumption | (simp_all; done)))⟩, (by simp; omega)⟩
  · replace hc_3 := of_decide_eq_false hc_3
    refine WP_seq ?_
    refine WP_region ?_
    refine S_v E rfl (R_move E rfl) rfl ?_
    clear E a; intro a E
    have hset := h1
    obtain ⟨sb1, sm1, sq1, se1, shb1, shm1, shn1, shq1⟩ := hset
    have shq1l : sq1.length ≤ c1.length := nodup_len shn1 fun z hz => (shq1 z).1 hz
    refine S_v E rfl (R_nilCheck E rfl se1) rfl ?_
    clear E a; intro a E
    refine S_v E rfl (R_loadM E (congrArg some se1) Tryz.isAgg145 S.imm (cellM_box shb1)) rfl ?_
    clear E a; intro a E
    refine S_x (X_range E S rfl MT145 shm1 rfl ?_)
    clear E a S; rintro a w i_14 es_15 ck_16 E hf_17 S
    replace S : St w M_2 (ItO sm1 es_15 ck_16 i_14 (Sl.encS ([] : List Int)) :: _) := S
    refine WL_nil ?_
    refine T_n ?_
    refine WP_block ?_
    replace S := S.reIt (p' := (Sl.encS [])) (congrArg Sl.encS (show ([] : List Int) = [] by (first | rfl | (simp [addsL_snoc]; done) | (simp [addsL_snoc, List.filter_append, *]; done))))
    refine WP_loop (γ := List Int) (fun (p : List Int) a w => ∃ (M_18 : Hp), Hp.le M_2 M_18 ∧ St w M_18 (ItO sm1 es_15 ck_16 i_14 (Sl.encS p) :: H) ∧ Env a 37 [] [(0, v0), (29, .pointer (some ⟨i_14, 0, none⟩))] ∧ (p.Nodup) ∧ (∀ z ∈ p, z ∈ sq1) ∧ (p.length ≤ sq1.length) ∧ (∀ z ∈ p, z ∉ c0)) (fun p => sq1.length - p.length) [] ⟨M_2, Hp.le.refl _, S, E.keep ⟨rfl, rfl, trivial⟩, (by simp), (by simp), (by simp), (by simp)⟩ ?_
    try clear E
    try clear S
    try clear a
    try clear w
    rintro p a w ⟨M_18, hM_18, S, E, hL1_0, hL1_1, hL1_2, hL1_3⟩
    replace h0 := h0.le hM_18
    replace h1 := h1.le hM_18
    replace shb1 := hM_18.2 _ _ shb1
    replace shm1 := shm1.le hM_18
    replace hf_17 := hf_17.le hM_18
    refine WP_seq ?_
    refine WP_region ?_
    refine S_x (X_nextS E S rfl hf_17 rfl (by assumption) (by assumption) ?_ ?_)
    · clear E a S; rintro a E hpm_19 S
      refine S_v E rfl (R_extract E rfl rfl) rfl ?_
      clear E a; intro a E
      refine WL_nil ?_
      refine T_n ?_
      refine WP_seq ?_
      refine WP_condF E rfl rfl ?_
      refine WP_exit ?_
      refine T_x ?_
      refine T_x ?_
      refine B_x ?_
      refine T_n ?_
      refine WP_seq ?_
      refine WP_region ?_
      refine S_v E rfl (R_assign E rfl) rfl ?_
      clear E a; intro a E
      refine WL_nil ?_
      refine T_n ?_
      refine WP_ret ?_
      exact F_ret1 E Tryz.results191 rfl ⟨_, rfl, M_18, (hM_1.trans (hM_2.trans hM_18)), (congrArg Value.bool (by (first | exact (any_f (by first | assumption | exact List.Perm.symm (by assumption)) shq0 (by assumption)).symm | exact ((any_comm c0 c1).trans (any_f (by first | assumption | exact List.Perm.symm (by assumption)) shq1 (by assumption))).symm | exact (any_t (k := _) (by assumption) shq0 (by simp_all)).symm | exact ((any_comm c0 c1).trans (any_t (k := _) (by assumption) shq1 (by simp_all))).symm))), S.drop⟩
    · clear E a S w; rintro a w k_20 E hk_21 hk_21n hk_21l S
      refine S_v E rfl (R_extract E rfl rfl) rfl ?_
      clear E a; intro a E
      refine WL_nil ?_
      refine T_n ?_
      refine WP_seq ?_
      refine WP_condT E rfl rfl ?_
      refine WP_skip ?_
      refine T_n ?_
      refine WP_block ?_
      refine WP_seq ?_
      refine WP_region ?_
      refine S_v E rfl (R_entry (k := k_20) (v := .agg #[]) E (by have S1 := S; simp only [Sl.encS, List.map_append, List.map_cons, List.map_nil] at S1; exact S1) hf_17 rfl) rfl ?_
      clear E a; intro a E
      refine S_v E rfl (R_extract E rfl rfl) rfl ?_
      clear E a; intro a E
      refine S_v E rfl (R_assign E rfl) rfl ?_
      clear E a; intro a E
      refine WL_nil ?_
      refine T_n ?_
      refine WP_seq ?_
      refine WP_region ?_
      refine S_v E rfl (R_move E rfl) rfl ?_
      clear E a; intro a E
      refine S_v E rfl (R_move E rfl) rfl ?_
      clear E a; intro a E
      refine S_x (X_pu E S rfl rfl rfl (U_contains h0 (by first | assumption | omega)) (Hp.le.refl _) ?_)
      clear E a S; rintro a _ w M_22 hM_22 rfl S E
      replace h0 := h0.le hM_22
      replace h1 := h1.le hM_22
      replace shb1 := hM_22.2 _ _ shb1
      replace shm1 := shm1.le hM_22
      replace hf_17 := hf_17.le hM_22
      refine WL_nil ?_
      refine T_n ?_
      refine WP_cond E rfl (fun hc_23 => ?_) (fun hc_23 => ?_)
      · replace hc_23 := of_decide_eq_true hc_23
        refine WP_seq ?_
        refine WP_region ?_
        refine S_v E rfl (R_assign E rfl) rfl ?_
        clear E a; intro a E
        refine WL_nil ?_
        refine T_n ?_
        refine WP_ret ?_
        refine B_r ?_
        refine T_r ?_
        refine B_r ?_
        refine T_r ?_
        exact F_ret1 E Tryz.results191 rfl ⟨_, rfl, M_22, (hM_1.trans (hM_2.trans (hM_18.trans hM_22))), (congrArg Value.bool (by (first | exact (any_f (by first | assumption | exact List.Perm.symm (by assumption)) shq0 (by assumption)).symm | exact ((any_comm c0 c1).trans (any_f (by first | assumption | exact List.Perm.symm (by assumption)) shq1 (by assumption))).symm | exact (any_t (k := _) (by assumption) shq0 (by simp_all)).symm | exact ((any_comm c0 c1).trans (any_t (k := _) (by assumption) shq1 (by simp_all))).symm))), S.drop⟩
      · replace hc_23 := of_decide_eq_false hc_23
        refine WP_skip ?_
        refine B_n ?_
        refine T_n ?_
        replace S := S.reIt (p' := (Sl.encS (p ++ [k_20]))) (congrArg Sl.encS (show p ++ [k_20] = (p ++ [k_20]) by (first | rfl | (simp [addsL_snoc]; done) | (simp [addsL_snoc, List.filter_append, *]; done))))
        exact ⟨(p ++ [k_20]), ⟨M_22, (hM_18.trans hM_22), S, E.keep ⟨rfl, rfl, trivial⟩, (by exact snocN (by assumption) (by assumption)), (by exact snocS (by assumption) (by assumption)), (by simp; omega), (by exact snocP (Q := fun z => z ∉ c0) (by assumption) (by first | assumption | (simp_all; done)))⟩, (by simp; omega)⟩

set_option maxRecDepth 100000 in
set_option maxHeartbeats 4000000 in
theorem U_SetRelations {M : Hp} {v1 v2 : Value} {l1 l2 : List Int} (h1 : RdI M v1 l1) (h2 : RdI M v2 l2)(hb1 : l1.length ≤ 100000000) (hb2 : l2.length ≤ 100000000)  :
    Pu Tryz.prog (.func (.func 20) #[] #[]) M [.bool false, v1, v2] (fun r M' => RdS 1 RB1 M' r (relL l1 l2)) := by
  refine Pu_enter Tryz.func20 rfl Tryz.ntmps20 rfl Tryz.call20 ?_
  intro a w M1 H hM1 S E
  replace h1 := h1.le hM1
  replace h2 := h2.le hM1
  have b1 := h1.bound
  have b2 := h2.bound
  refine WP_seq ?_
  refine WP_region ?_
  refine S_v E rfl (R_assign E rfl) rfl ?_
  clear E a; intro a E
  refine WL_nil ?_
  refine T_n ?_
  refine WP_seq ?_
  refine WP_region ?_
  refine S_v E rfl (R_move E rfl) rfl ?_
  clear E a; intro a E
  refine S_v E rfl (R_move E rfl) rfl ?_
  clear E a; intro a E
  refine S_v E rfl (R_move E rfl) rfl ?_
  clear E a; intro a E
  refine S_x (X_pu E S rfl rfl rfl (U_twoSets h1 h2 (by first | assumption | omega) (by first | assumption | omega)) (Hp.le.refl _) ?_)
  clear E a S; rintro a _ w M_1 hM_1 ⟨_, _, rfl, ⟨v_2, rfl, hv_2⟩, ⟨v_3, rfl, hv_3⟩⟩ S E
  replace h1 := h1.le hM_1
  replace h2 := h2.le hM_1
  refine S_v E rfl (R_move E rfl) rfl ?_
  clear E a; intro a E
  refine S_v E rfl (R_extract E rfl rfl) rfl ?_
  clear E a; intro a E
  refine S_v E rfl (R_extract E rfl rfl) rfl ?_
  clear E a; intro a E
  refine S_v E rfl (R_assign E rfl) rfl ?_
  clear E a; intro a E
  refine S_v E rfl (R_assign E rfl) rfl ?_
  clear E a; intro a E
  refine WL_nil ?_
  refine T_n ?_
  refine WP_seq ?_
  refine WP_region ?_
  refine S_v E rfl (R_move E rfl) rfl ?_
  clear E a; intro a E
  refine S_v E rfl (R_move E rfl) rfl ?_
  clear E a; intro a E
  refine S_x (X_puI E S rfl rfl rfl (meth_116_Equal _ _) Tryz.call194 (U_Equal hv_2 hv_3 (by first | assumption | omega) (by first | assumption | omega)) (Hp.le.refl _) ?_)
  clear E a S; rintro a _ w M_4 hM_4 rfl S E
  replace h1 := h1.le hM_4
  replace h2 := h2.le hM_4
  replace hv_2 := hv_2.le hM_4
  replace hv_3 := hv_3.le hM_4
  refine S_v E rfl (R_move E rfl) rfl ?_
  clear E a; intro a E
  refine S_v E rfl (R_move E rfl) rfl ?_
  clear E a; intro a E
  refine S_x (X_puI E S rfl rfl rfl (meth_116_IsSubset _ _) Tryz.call197 (U_IsSubset hv_2 hv_3 (by first | assumption | omega) (by first | assumption | omega)) (Hp.le.refl _) ?_)
  clear E a S; rintro a _ w M_5 hM_5 rfl S E
  replace h1 := h1.le hM_5
  replace h2 := h2.le hM_5
  replace hv_2 := hv_2.le hM_5
  replace hv_3 := hv_3.le hM_5
  refine S_v E rfl (R_move E rfl) rfl ?_
  clear E a; intro a E
  refine S_v E rfl (R_move E rfl) rfl ?_
  clear E a; intro a E
  refine S_x (X_puI E S rfl rfl rfl (meth_116_IsProperSubset _ _) Tryz.call196 (U_IsProperSubset hv_2 hv_3 (by first | assumption | omega) (by first | assumption | omega)) (Hp.le.refl _) ?_)
  clear E a S; rintro a _ w M_6 hM_6 rfl S E
  replace h1 := h1.le hM_6
  replace h2 := h2.le hM_6
  replace hv_2 := hv_2.le hM_6
  replace hv_3 := hv_3.le hM_6
  refine S_v E rfl (R_move E rfl) rfl ?_
  clear E a; intro a E
  refine S_v E rfl (R_move E rfl) rfl ?_
  clear E a; intro a E
  refine S_x (X_puI E S rfl rfl rfl (meth_116_IsSuperset _ _) Tryz.call211 (U_IsSuperset hv_2 hv_3 (by first | assumption | omega) (by first | assumption | omega)) (Hp.le.refl _) ?_)
  clear E a S; rintro a _ w M_7 hM_7 rfl S E
  replace h1 := h1.le hM_7
  replace h2 := h2.le hM_7
  replace hv_2 := hv_2.le hM_7
  replace hv_3 := hv_3.le hM_7
  refine S_v E rfl (R_move E rfl) rfl ?_
  clear E a; intro a E
  refine S_v E rfl (R_move E rfl) rfl ?_
  clear E a; intro a E
  refine S_x (X_puI E S rfl rfl rfl (meth_116_IsProperSuperset _ _) Tryz.call210 (U_IsProperSuperset hv_2 hv_3 (by first | assumption | omega) (by first | assumption | omega)) (Hp.le.refl _) ?_)
  clear E a S; rintro a _ w M_8 hM_8 rfl S E
  replace h1 := h1.le hM_8
  replace h2 := h2.le hM_8
  replace hv_2 := hv_2.le hM_8
  replace hv_3 := hv_3.le hM_8
  refine S_v E rfl (R_move E rfl) rfl ?_
  clear E a; intro a E
  refine S_v E rfl (R_move E rfl) rfl ?_
  clear E a; intro a E
  refine S_x (X_puI E S rfl rfl rfl (meth_116_ContainsAnyElement _ _) Tryz.call191 (U_ContainsAnyElement hv_2 hv_3 (by first | assumption | omega) (by first | assumption | omega)) (Hp.le.refl _) ?_)
  clear E a S; rintro a _ w M_9 hM_9 rfl S E
  replace h1 := h1.le hM_9
  replace h2 := h2.le hM_9
  replace hv_2 := hv_2.le hM_9
  replace hv_3 := hv_3.le hM_9
  refine S_x (X_buildM (R := RB1) (vs := [.bool (sub' l1 l2 && sub' l2 l1), .bool (sub' l1 l2), .bool ((decide (card l1 < card l2)) && sub' l1 l2), .bool (sub' l2 l1), .bool ((decide (card l2 < card l1)) && sub' l2 l1), .bool (any' l1 l2)]) (xs := [sub' l1 l2 && sub' l2 l1, sub' l1 l2, (decide (card l1 < card l2)) && sub' l1 l2, sub' l2 l1, (decide (card l2 < card l1)) && sub' l2 l1, any' l1 l2]) RB1_mono E S rfl T28 rfl rfl rfl (by intro u hu; simp only [List.mem_cons, List.not_mem_nil, or_false] at hu; rcases hu with rfl | rfl | rfl | rfl | rfl | rfl <;> first | exact rfl | exact rfl | exact rfl | exact rfl | exact rfl | exact rfl) rfl (rowsC (R := RB1) rfl (rowsC (R := RB1) rfl (rowsC (R := RB1) rfl (rowsC (R := RB1) rfl (rowsC (R := RB1) rfl (rowsC (R := RB1) rfl rowsN)))))) ?_)
  clear E a S; rintro a v_10 w M_11 hM_11 hv_10 S E
  replace h1 := h1.le hM_11
  replace h2 := h2.le hM_11
  replace hv_2 := hv_2.le hM_11
  replace hv_3 := hv_3.le hM_11
  refine S_v E rfl (R_assign E rfl) rfl ?_
  clear E a; intro a E
  refine WL_nil ?_
  refine T_n ?_
  refine WP_ret ?_
  exact F_ret1 E Tryz.results20 rfl ⟨_, rfl, M_11, (hM_1.trans (hM_4.trans (hM_5.trans (hM_6.trans (hM_7.trans (hM_8.trans (hM_9.trans hM_11))))))), (by rw [show (relL l1 l2) = [sub' l1 l2 && sub' l2 l1, sub' l1 l2, (decide (card l1 < card l2)) && sub' l1 l2, sub' l2 l1, (decide (card l2 < card l1)) && sub' l2 l1, any' l1 l2] from by rfl]; exact hv_10), S⟩

set_option maxRecDepth 100000 in
set_option maxHeartbeats 4000000 in
theorem S_new {M : Hp} {n0 : Nat} (hb0 : n0 ≤ 1000000000000) :
    Sp Tryz.prog (.func (.func 83) #[] #[]) M [.int .i64 ((n0 : Nat) : Int)] [] (fun r M' C' => ∃ p b m, r = .pointer (some ⟨p, 0, none⟩) ∧ C' = [blk p (.cells #[.int .i32 0, .int .u32 0, .int .u32 0, .int .u32 0, .int .i32 0, .int .i32 0, .pointer (some ⟨b, 0, none⟩)] 144), blk b (.cells #[.map (some m)] 145), OwnS m []]) := by
  refine Sp_enter Tryz.func83 rfl Tryz.ntmps83 rfl Tryz.call83 ?_
  intro a w M1 H hM1 S E
  refine WP_seq ?_
  refine WP_region ?_
  refine S_v E rfl (R_assign E rfl) rfl ?_
  clear E a; intro a E
  refine WL_nil ?_
  refine T_n ?_
  refine WP_seq ?_
  refine WP_region ?_
  refine S_v E rfl (R_move E rfl) rfl ?_
  clear E a; intro a E
  refine S_x (X_sp (p := []) E S rfl rfl rfl (U_new (by first | assumption | omega)) (Hp.le.refl _) ?_)
  clear E a S; rintro a _ w M_1 _ hM_1 ⟨b_3, mm_4, rfl, rfl⟩ S E
  replace S : St w M_1 (blk b_3 (.cells #[.map (some mm_4)] 145) :: OwnS mm_4 ([] : List Int) :: H) := S
  refine S_v E rfl (R_build (u := .agg #[.int .i32 0, .int .u32 0, .int .u32 0, .int .u32 0, .int .i32 0, .int .i32 0, .pointer (some ⟨b_3, 0, none⟩)]) (vs := [.pointer (some ⟨b_3, 0, none⟩)]) E rfl (fun w => BLK144 _ w)) rfl ?_
  clear E a; intro a E
  refine S_x (X_box (cs := #[.int .i32 0, .int .u32 0, .int .u32 0, .int .u32 0, .int .i32 0, .int .i32 0, .pointer (some ⟨b_3, 0, none⟩)]) E S rfl rfl rfl ?_)
  clear E a S; rintro a w b_5 E S
  refine S_v E rfl (R_assign E rfl) rfl ?_
  clear E a; intro a E
  refine WL_nil ?_
  refine T_n ?_
  refine WP_ret ?_
  replace S := S.front2
  replace S := S.front2
  replace S := S.front2
  exact F_ret1 E Tryz.results83 rfl ⟨_, rfl, M_1, _, hM_1, ⟨_, _, _, rfl, rfl⟩, S⟩

set_option maxRecDepth 100000 in
set_option maxHeartbeats 4000000 in
theorem S_Add {M : Hp} {p9 b9 m9 : Nat} {l9 : List Int} {x0 : Int} :
    Sp Tryz.prog (.func (.func 84) #[] #[]) M [.pointer (some ⟨p9, 0, none⟩), .int .i64 x0] [blk p9 (.cells #[.int .i32 0, .int .u32 0, .int .u32 0, .int .u32 0, .int .i32 0, .int .i32 0, .pointer (some ⟨b9, 0, none⟩)] 144), blk b9 (.cells #[.map (some m9)] 145), OwnS m9 l9] (fun r M' C' => (∃ z, r = .bool z) ∧ C' = [blk p9 (.cells #[.int .i32 0, .int .u32 0, .int .u32 0, .int .u32 0, .int .i32 0, .int .i32 0, .pointer (some ⟨b9, 0, none⟩)] 144), blk b9 (.cells #[.map (some m9)] 145), OwnS m9 (addS l9 x0)]) := by
  refine Sp_enter Tryz.func84 rfl Tryz.ntmps84 rfl Tryz.call84 ?_
  intro a w M1 H hM1 S E
  replace S : St w M1 (blk p9 (.cells #[.int .i32 0, .int .u32 0, .int .u32 0, .int .u32 0, .int .i32 0, .int .i32 0, .pointer (some ⟨b9, 0, none⟩)] 144) :: blk b9 (.cells #[.map (some m9)] 145) :: OwnS m9 l9 :: _) := S
  refine WP_seq ?_
  refine WP_region ?_
  refine S_v E rfl (R_assign E rfl) rfl ?_
  clear E a; intro a E
  refine WL_nil ?_
  refine T_n ?_
  refine WP_seq ?_
  refine WP_region ?_
  refine S_v E rfl (R_move E rfl) rfl ?_
  clear E a; intro a E
  refine S_v E rfl (R_nilCheck E rfl rfl) rfl ?_
  clear E a; intro a E
  refine S_v E rfl (R_fieldAddr E rfl (FA144_0 _)) rfl ?_
  clear E a; intro a E
  replace S : St w M1 (LK p9 144 0 (.pointer (some ⟨b9, 0, none⟩)) :: _) := S
  refine S_x (X_sp (p := [LK p9 144 0 (.pointer (some ⟨b9, 0, none⟩))]) E S rfl rfl rfl (wlock_sp Tryz.rwWLib (T := 144)) (Hp.le.refl _) ?_)
  clear E a S; rintro a _ w M_1 _ hM_1 ⟨rfl, rfl⟩ S E
  replace S : St w M_1 (blk p9 (.cells #[.int .i32 1, .int .u32 0, .int .u32 0, .int .u32 0, .int .i32 (-1073741824), .int .i32 0, .pointer (some ⟨b9, 0, none⟩)] 144) :: blk b9 (.cells #[.map (some m9)] 145) :: OwnS m9 l9 :: H) := S
  refine WL_nil ?_
  refine T_n ?_
  refine WP_seq ?_
  refine WP_region ?_
  refine S_v E rfl (R_move E rfl) rfl ?_
  clear E a; intro a E
  refine S_v E rfl (R_nilCheck E rfl rfl) rfl ?_
  clear E a; intro a E
  refine S_v E rfl (R_fieldAddr E rfl (FA144_1 _)) rfl ?_
  clear E a; intro a E
  refine S_v E rfl (R_load E rfl (Tryz.isAgg116 _) (cell_blkf (S.mem (.head _)) rfl)) rfl ?_
  clear E a; intro a E
  refine S_v E rfl (R_nilCheck E rfl rfl) rfl ?_
  clear E a; intro a E
  refine S_v E rfl (R_load E rfl (Tryz.isAgg145 _) (cell_blk (S.mem (.tail _ (.head _))))) rfl ?_
  clear E a; intro a E
  refine S_v E rfl (R_move E rfl) rfl ?_
  clear E a; intro a E
  replace S := S.front2
  refine S_x (X_sp (p := [OwnS m9 l9]) E S rfl rfl rfl (U_Add) (Hp.le.refl _) ?_)
  clear E a S; rintro a _ w M_2 _ hM_2 ⟨⟨_, rfl⟩, rfl⟩ S E
  replace S : St w M_2 (OwnS m9 (addS l9 x0) :: blk p9 (.cells #[.int .i32 1, .int .u32 0, .int .u32 0, .int .u32 0, .int .i32 (-1073741824), .int .i32 0, .pointer (some ⟨b9, 0, none⟩)] 144) :: blk b9 (.cells #[.map (some m9)] 145) :: H) := S
  refine S_v E rfl (R_assign E rfl) rfl ?_
  clear E a; intro a E
  refine WL_nil ?_
  refine T_n ?_
  refine WP_seq ?_
  refine WP_region ?_
  refine S_v E rfl (R_move E rfl) rfl ?_
  clear E a; intro a E
  refine S_v E rfl (R_nilCheck E rfl rfl) rfl ?_
  clear E a; intro a E
  refine S_v E rfl (R_fieldAddr E rfl (FA144_0 _)) rfl ?_
  clear E a; intro a E
  replace S := S.front1
  replace S : St w M_2 (LKw p9 144 (.pointer (some ⟨b9, 0, none⟩)) :: _) := S
  refine S_x (X_sp (p := [LKw p9 144 (.pointer (some ⟨b9, 0, none⟩))]) E S rfl rfl rfl (wunlock_sp Tryz.rwWLib (T := 144)) (Hp.le.refl _) ?_)
  clear E a S; rintro a _ w M_3 _ hM_3 ⟨rfl, rfl⟩ S E
  replace S : St w M_3 (blk p9 (.cells #[.int .i32 0, .int .u32 0, .int .u32 0, .int .u32 0, .int .i32 0, .int .i32 0, .pointer (some ⟨b9, 0, none⟩)] 144) :: OwnS m9 (addS l9 x0) :: blk b9 (.cells #[.map (some m9)] 145) :: H) := S
  refine WL_nil ?_
  refine T_n ?_
  refine WP_seq ?_
  refine WP_region ?_
  refine S_v E rfl (R_move E rfl) rfl ?_
  clear E a; intro a E
  refine S_v E rfl (R_assign E rfl) rfl ?_
  clear E a; intro a E
  refine WL_nil ?_
  refine T_n ?_
  refine WP_ret ?_
  replace S := S.front1
  replace S := S.front2
  replace S := S.front2
  exact F_ret1 E Tryz.results84 rfl ⟨_, rfl, M_3, _, (hM_1.trans (hM_2.trans hM_3)), ⟨⟨_, rfl⟩, rfl⟩, S⟩

set_option maxRecDepth 100000 in
set_option maxHeartbeats 4000000 in
theorem S_NewSet {M : Hp} {v0 : Value} {l0 : List Int} (h0 : RdI M v0 l0)(hb : l0.length ≤ 1000000000) :
    Sp Tryz.prog (.func (.func 58) #[] #[]) M [v0] [] (fun r M' C' => ∃ p_0 v_0, r = .iface 114 (.pointer (some ⟨p_0, 0, none⟩)) ∧ C' = [blk p_0 (.cells #[.int .i32 0, .int .u32 0, .int .u32 0, .int .u32 0, .int .i32 0, .int .i32 0, v_0] 144)] ∧ (RdSU 145 M' v_0 l0)) := by
  refine Sp_enter Tryz.func58 rfl Tryz.ntmps58 rfl Tryz.call58 ?_
  intro a w M1 H hM1 S E
  replace h0 := h0.le hM1
  have b0 := h0.bound
  refine WP_seq ?_
  refine WP_region ?_
  refine S_v E rfl (R_assign E rfl) rfl ?_
  clear E a; intro a E
  refine WL_nil ?_
  refine T_n ?_
  refine WP_seq ?_
  refine WP_region ?_
  refine S_v E rfl (R_move E rfl) rfl ?_
  clear E a; intro a E
  refine S_v E rfl (R_lenV E rfl T22 h0.len) rfl ?_
  clear E a; intro a E
  refine S_x (X_sp (p := []) E S rfl rfl rfl (S_new (by first | assumption | omega)) (Hp.le.refl _) ?_)
  clear E a S; rintro a _ w M_1 _ hM_1 ⟨p_2, b_3, mm_4, rfl, rfl⟩ S E
  replace S : St w M_1 (blk p_2 (.cells #[.int .i32 0, .int .u32 0, .int .u32 0, .int .u32 0, .int .i32 0, .int .i32 0, .pointer (some ⟨b_3, 0, none⟩)] 144) :: blk b_3 (.cells #[.map (some mm_4)] 145) :: OwnS mm_4 ([] : List Int) :: H) := S
  replace h0 := h0.le hM_1
  refine S_v E rfl (R_assign E rfl) rfl ?_
  clear E a; intro a E
  refine WL_nil ?_
  refine T_n ?_
  refine WP_seq ?_
  refine WP_seq ?_
  refine WP_region ?_
  refine S_v E rfl (R_move E rfl) rfl ?_
  clear E a; intro a E
  refine S_v E rfl (R_lenV E rfl T22 h0.len) rfl ?_
  clear E a; intro a E
  refine S_v E rfl (R_move E rfl) rfl ?_
  clear E a; intro a E
  refine WL_nil ?_
  refine T_n ?_
  refine WP_block ?_
  replace S := S.front2
  replace S := S.reM (L' := (Sl.encS (addsL [] (l0.take 0)))) (congrArg Sl.encS (show ([] : List Int) = (addsL [] (l0.take 0)) by (first | rfl | (simp [addsL]; done) | (rw [List.take_add_one]; simp [*, addsL_snoc]; done))))
  refine WP_loop (γ := Nat) (fun (k : Nat) a w => ∃ (M_5 : Hp), Hp.le M_1 M_5 ∧ St w M_5 (OwnS mm_4 (addsL [] (l0.take k)) :: blk p_2 (.cells #[.int .i32 0, .int .u32 0, .int .u32 0, .int .u32 0, .int .i32 0, .int .i32 0, .pointer (some ⟨b_3, 0, none⟩)] 144) :: blk b_3 (.cells #[.map (some mm_4)] 145) :: H) ∧ Env a 21 [] [(3, .pointer (some ⟨p_2, 0, none⟩)), (9, v0), (10, .int .i64 (((l0).length : Nat) : Int)), (11, .int .i64 ((k : Nat) : Int))] ∧ (k ≤ (l0).length)) (fun k => ((l0).length) - k) 0 ⟨M_1, Hp.le.refl _, S, E.keep ⟨rfl, rfl, rfl, rfl, trivial⟩, by ((try clear S); (try clear E); first | assumption | omega | rfl | (simp; done) | (simp_all; done) | (simp [List.take_add_one, *]; done) | grind [List.take_add_one])⟩ ?_
  try clear E
  try clear S
  try clear a
  try clear w
  rintro k a w ⟨M_5, hM_5, S, E, hL0_0⟩
  replace h0 := h0.le hM_5
  refine WP_seq ?_
  refine WP_region ?_
  refine S_v E rfl (R_lss E rfl rfl) rfl ?_
  clear E a; intro a E
  refine WL_nil ?_
  refine T_n ?_
  refine WP_seq ?_
  refine WP_cond E rfl (fun hc_6 => ?_) (fun hc_6 => ?_)
  · replace hc_6 := of_decide_eq_true hc_6
    refine WP_skip ?_
    refine T_n ?_
    refine WP_seq ?_
    refine WP_block ?_
    refine WP_seq ?_
    refine WP_region ?_
    obtain ⟨x_7, hx_7⟩ : ∃ x, (l0)[k]? = some x := ⟨_, List.getElem?_eq_getElem (by first | omega | (simp; done) | (simp; omega) | (simp_all; omega))⟩
    obtain ⟨p_8, hp_8, qp_8⟩ := h0.at hx_7
    refine S_v E rfl (R_idx E rfl rfl T22 hp_8 rfl) rfl ?_
    clear E a; intro a E
    refine S_v E rfl (R_loadM E rfl Tryz.isAgg3 S.imm qp_8) rfl ?_
    clear E a; intro a E
    refine S_v E rfl (R_assign E rfl) rfl ?_
    clear E a; intro a E
    refine WL_nil ?_
    refine T_n ?_
    refine WP_region ?_
    refine S_v E rfl (R_move E rfl) rfl ?_
    clear E a; intro a E
    refine S_v E rfl (R_move E rfl) rfl ?_
    clear E a; intro a E
    replace S := S.front2
    replace S := S.front2
    refine S_x (X_sp (p := [blk p_2 (.cells #[.int .i32 0, .int .u32 0, .int .u32 0, .int .u32 0, .int .i32 0, .int .i32 0, .pointer (some ⟨b_3, 0, none⟩)] 144), blk b_3 (.cells #[.map (some mm_4)] 145), OwnS mm_4 (addsL [] (l0.take k))]) E S rfl rfl rfl (S_Add) (Hp.le.refl _) ?_)
    clear E a S; rintro a _ w M_9 _ hM_9 ⟨⟨_, rfl⟩, rfl⟩ S E
    replace S : St w M_9 (blk p_2 (.cells #[.int .i32 0, .int .u32 0, .int .u32 0, .int .u32 0, .int .i32 0, .int .i32 0, .pointer (some ⟨b_3, 0, none⟩)] 144) :: blk b_3 (.cells #[.map (some mm_4)] 145) :: OwnS mm_4 (addS (addsL [] (l0.take k)) x_7) :: H) := S
    replace h0 := h0.le hM_9
    refine WL_nil ?_
    refine B_n ?_
    refine T_n ?_
    refine WP_region ?_
    refine S_v E rfl (R_addx (m := ((k + 1 : Nat) : Int)) E rfl rfl (by omega) (by omega)) rfl ?_
    clear E a; intro a E
    refine S_v E rfl (R_move E rfl) rfl ?_
    clear E a; intro a E
    refine WL_nil ?_
    refine T_n ?_
    replace S := S.front1
    replace S := S.front1
    replace S := S.front2
    replace S := S.reM (L' := (Sl.encS (addsL [] (l0.take (k + 1))))) (congrArg Sl.encS (show addS (addsL [] (l0.take k)) x_7 = (addsL [] (l0.take (k + 1))) by (first | rfl | (simp [addsL]; done) | (rw [List.take_add_one]; simp [*, addsL_snoc]; done))))
    exact ⟨k + 1, ⟨M_9, (hM_5.trans hM_9), S, E.keep ⟨rfl, rfl, rfl, rfl, trivial⟩, by ((try clear S); (try clear E); first | assumption | omega | rfl | (simp; done) | (simp_all; done) | (simp [List.take_add_one, *]; done) | grind [List.take_add_one])⟩, by omega⟩
  · replace hc_6 := of_decide_eq_false hc_6
    refine WP_exit ?_
    refine T_x ?_
    refine T_x ?_
    refine B_x ?_
    refine T_n ?_
    refine WP_seq ?_
    refine WP_region ?_
    refine S_v E rfl (R_move E rfl) rfl ?_
    clear E a; intro a E
    refine S_v E rfl (R_ifaceP E rfl Tryz.underlying114) rfl ?_
    clear E a; intro a E
    refine S_v E rfl (R_assign E rfl) rfl ?_
    clear E a; intro a E
    refine WL_nil ?_
    refine T_n ?_
    refine WP_ret ?_
    have S0 := S; clear S
    obtain ⟨M_10, hM_10, hm_11, S⟩ := S0.freezeM
    clear S0
    replace h0 := h0.le hM_10
    replace S := S.front1
    have S0 := S; clear S
    obtain ⟨M_12, hM_12, hb_13, S⟩ := S0.freezeB
    clear S0
    replace h0 := h0.le hM_12
    replace hm_11 := hm_11.le hM_12
    exact F_ret1 E Tryz.results58 rfl ⟨_, rfl, M_12, _, (hM_1.trans (hM_5.trans (hM_10.trans hM_12))), ⟨_, _, rfl, rfl, ⟨_, _, (addsL [] (l0.take k)), rfl, hb_13, hm_11, (by first | assumption | exact addsL_nodup _ _ List.nodup_nil | exact addsL_nodup _ _ (addsL_nodup _ _ List.nodup_nil)), (by (intro x; rw [List.take_of_length_le (by omega)]; simp [mem_addsL]))⟩⟩, S⟩

set_option maxRecDepth 100000 in
set_option maxHeartbeats 4000000 in
theorem S_setOf {M : Hp} {v1 : Value} {l1 : List Int} (h1 : RdI M v1 l1)(hb : l1.length ≤ 1000000000) :
    Sp Tryz.prog (.func (.func 41) #[] #[]) M [.bool true, v1] [] (fun r M' C' => ∃ p_0 v_0, r = .iface 114 (.pointer (some ⟨p_0, 0, none⟩)) ∧ C' = [blk p_0 (.cells #[.int .i32 0, .int .u32 0, .int .u32 0, .int .u32 0, .int .i32 0, .int .i32 0, v_0] 144)] ∧ (RdSU 145 M' v_0 l1)) := by
  refine Sp_enter Tryz.func41 rfl Tryz.ntmps41 rfl Tryz.call41 ?_
  intro a w M1 H hM1 S E
  replace h1 := h1.le hM1
  have b1 := h1.bound
  refine WP_seq ?_
  refine WP_region ?_
  refine S_v E rfl (R_assign E rfl) rfl ?_
  clear E a; intro a E
  refine WL_nil ?_
  refine T_n ?_
  refine WP_seq ?_
  refine WP_seq ?_
  refine WP_region ?_
  refine S_v E rfl (R_move E rfl) rfl ?_
  clear E a; intro a E
  refine WL_nil ?_
  refine T_n ?_
  refine WP_condT E rfl rfl ?_
  refine WP_seq ?_
  refine WP_region ?_
  refine S_v E rfl (R_move E rfl) rfl ?_
  clear E a; intro a E
  refine S_x (X_sp (p := []) E S rfl rfl rfl (S_NewSet h1 (by first | assumption | omega)) (Hp.le.refl _) ?_)
  clear E a S; rintro a _ w M_1 _ hM_1 ⟨p_3, v_4, rfl, rfl, hv_4⟩ S E
  replace S : St w M_1 (blk p_3 (.cells #[.int .i32 0, .int .u32 0, .int .u32 0, .int .u32 0, .int .i32 0, .int .i32 0, v_4] 144) :: H) := S
  replace h1 := h1.le hM_1
  refine S_v E rfl (R_assign E rfl) rfl ?_
  clear E a; intro a E
  refine WL_nil ?_
  refine T_n ?_
  refine WP_ret ?_
  refine T_r ?_
  exact F_ret1 E Tryz.results41 rfl ⟨_, rfl, M_1, _, hM_1, ⟨_, _, rfl, rfl, hv_4⟩, S⟩

set_option maxRecDepth 100000 in
set_option maxHeartbeats 4000000 in
theorem S_twoSets {M : Hp} {v1 v2 : Value} {l1 l2 : List Int} (h1 : RdI M v1 l1) (h2 : RdI M v2 l2)(hb1 : l1.length ≤ 100000000) (hb2 : l2.length ≤ 100000000)  :
    Sp Tryz.prog (.func (.func 38) #[] #[]) M [.bool true, v1, v2] [] (fun r M' C' => ∃ p_0 v_0 p_1 v_1, r = .tuple #[.iface 114 (.pointer (some ⟨p_0, 0, none⟩)), .iface 114 (.pointer (some ⟨p_1, 0, none⟩))] ∧ C' = [blk p_0 (.cells #[.int .i32 0, .int .u32 0, .int .u32 0, .int .u32 0, .int .i32 0, .int .i32 0, v_0] 144), blk p_1 (.cells #[.int .i32 0, .int .u32 0, .int .u32 0, .int .u32 0, .int .i32 0, .int .i32 0, v_1] 144)] ∧ (RdSU 145 M' v_0 l1) ∧ (RdSU 145 M' v_1 l2)) := by
  refine Sp_enter Tryz.func38 rfl Tryz.ntmps38 rfl Tryz.call38 ?_
  intro a w M1 H hM1 S E
  replace h1 := h1.le hM1
  replace h2 := h2.le hM1
  have b1 := h1.bound
  have b2 := h2.bound
  refine WP_seq ?_
  refine WP_region ?_
  refine S_v E rfl (R_assign E rfl) rfl ?_
  clear E a; intro a E
  refine S_v E rfl (R_assign E rfl) rfl ?_
  clear E a; intro a E
  refine WL_nil ?_
  refine T_n ?_
  refine WP_seq ?_
  refine WP_region ?_
  refine S_v E rfl (R_move E rfl) rfl ?_
  clear E a; intro a E
  refine S_v E rfl (R_move E rfl) rfl ?_
  clear E a; intro a E
  refine S_x (X_sp (p := []) E S rfl rfl rfl (S_setOf h1 (by first | assumption | omega)) (Hp.le.refl _) ?_)
  clear E a S; rintro a _ w M_1 _ hM_1 ⟨p_3, v_4, rfl, rfl, hv_4⟩ S E
  replace S : St w M_1 (blk p_3 (.cells #[.int .i32 0, .int .u32 0, .int .u32 0, .int .u32 0, .int .i32 0, .int .i32 0, v_4] 144) :: H) := S
  replace h1 := h1.le hM_1
  replace h2 := h2.le hM_1
  refine S_v E rfl (R_move E rfl) rfl ?_
  clear E a; intro a E
  refine S_v E rfl (R_move E rfl) rfl ?_
  clear E a; intro a E
  refine S_x (X_sp (p := []) E S rfl rfl rfl (S_setOf h2 (by first | assumption | omega)) (Hp.le.refl _) ?_)
  clear E a S; rintro a _ w M_5 _ hM_5 ⟨p_7, v_8, rfl, rfl, hv_8⟩ S E
  replace S : St w M_5 (blk p_7 (.cells #[.int .i32 0, .int .u32 0, .int .u32 0, .int .u32 0, .int .i32 0, .int .i32 0, v_8] 144) :: blk p_3 (.cells #[.int .i32 0, .int .u32 0, .int .u32 0, .int .u32 0, .int .i32 0, .int .i32 0, v_4] 144) :: H) := S
  replace h1 := h1.le hM_5
  replace h2 := h2.le hM_5
  replace hv_4 := hv_4.le hM_5
  refine S_v E rfl (R_assign E rfl) rfl ?_
  clear E a; intro a E
  refine S_v E rfl (R_assign E rfl) rfl ?_
  clear E a; intro a E
  refine WL_nil ?_
  refine T_n ?_
  refine WP_ret ?_
  replace S := S.front1
  exact F_ret2 E Tryz.results38 rfl rfl ⟨_, rfl, M_5, _, (hM_1.trans hM_5), ⟨_, _, _, _, rfl, rfl, hv_4, hv_8⟩, S⟩

set_option maxRecDepth 100000 in
set_option maxHeartbeats 4000000 in
theorem S_Equal {M : Hp} {p0 : Nat} {v0 : Value} {c0 : List Int} (h0 : RdSU 145 M v0 c0) {p1 : Nat} {v1 : Value} {c1 : List Int} (h1 : RdSU 145 M v1 c1) (b0 : c0.length ≤ 1000000000) (b1 : c1.length ≤ 1000000000)  :
    Sp Tryz.prog (.func (.func 170) #[] #[]) M [.pointer (some ⟨p0, 0, none⟩), .iface 114 (.pointer (some ⟨p1, 0, none⟩))] [blk p0 (.cells #[.int .i32 0, .int .u32 0, .int .u32 0, .int .u32 0, .int .i32 0, .int .i32 0, v0] 144), blk p1 (.cells #[.int .i32 0, .int .u32 0, .int .u32 0, .int .u32 0, .int .i32 0, .int .i32 0, v1] 144)] (fun r M' C' => C' = [blk p0 (.cells #[.int .i32 0, .int .u32 0, .int .u32 0, .int .u32 0, .int .i32 0, .int .i32 0, v0] 144), blk p1 (.cells #[.int .i32 0, .int .u32 0, .int .u32 0, .int .u32 0, .int .i32 0, .int .i32 0, v1] 144)] ∧ (r = .bool (sub' c0 c1 && sub' c1 c0))) := by
  refine Sp_enter Tryz.func170 rfl Tryz.ntmps170 rfl Tryz.call170 ?_
  intro a w M1 H hM1 S E
  replace S : St w M1 (blk p0 (.cells #[.int .i32 0, .int .u32 0, .int .u32 0, .int .u32 0, .int .i32 0, .int .i32 0, v0] 144) :: blk p1 (.cells #[.int .i32 0, .int .u32 0, .int .u32 0, .int .u32 0, .int .i32 0, .int .i32 0, v1] 144) :: _) := S
  replace h0 := h0.le hM1
  replace h1 := h1.le hM1
  have hset := h0
  obtain ⟨sb0, sm0, sq0, se0, shb0, shm0, shn0, shq0⟩ := hset
  have shq0l : sq0.length ≤ c0.length := nodup_len shn0 fun z hz => (shq0 z).1 hz
  have hset := h1
  obtain ⟨sb1, sm1, sq1, se1, shb1, shm1, shn1, shq1⟩ := hset
  have shq1l : sq1.length ≤ c1.length := nodup_len shn1 fun z hz => (shq1 z).1 hz
  refine WP_seq ?_
  refine WP_region ?_
  refine S_v E rfl (R_assign E rfl) rfl ?_
  clear E a; intro a E
  refine WL_nil ?_
  refine T_n ?_
  refine WP_seq ?_
  refine WP_region ?_
  refine S_v E rfl (R_move E rfl) rfl ?_
  clear E a; intro a E
  refine S_v E rfl (R_assert E rfl Tryz.underlying114 (by intro z hz; cases hz)) rfl ?_
  clear E a; intro a E
  refine S_v E rfl (R_assign E rfl) rfl ?_
  clear E a; intro a E
  refine WL_nil ?_
  refine T_n ?_
  refine WP_seq ?_
  refine WP_region ?_
  refine S_v E rfl (R_move E rfl) rfl ?_
  clear E a; intro a E
  refine S_v E rfl (R_nilCheck E rfl rfl) rfl ?_
  clear E a; intro a E
  refine S_v E rfl (R_fieldAddr E rfl (FA144_0 _)) rfl ?_
  clear E a; intro a E
  replace S : St w M1 (LK p0 144 0 v0 :: _) := S
  refine S_x (X_sp (p := [LK p0 144 0 v0]) E S rfl rfl rfl (rlock_sp Tryz.rwRLib (T := 144) (n := 0) (by decide) (by decide)) (Hp.le.refl _) ?_)
  clear E a S; rintro a _ w M_1 _ hM_1 ⟨rfl, rfl⟩ S E
  replace S : St w M_1 (blk p0 (.cells #[.int .i32 0, .int .u32 0, .int .u32 0, .int .u32 0, .int .i32 1, .int .i32 0, v0] 144) :: blk p1 (.cells #[.int .i32 0, .int .u32 0, .int .u32 0, .int .u32 0, .int .i32 0, .int .i32 0, v1] 144) :: H) := S
  replace h0 := h0.le hM_1
  replace h1 := h1.le hM_1
  replace shb0 := hM_1.2 _ _ shb0
  replace shm0 := shm0.le hM_1
  replace shb1 := hM_1.2 _ _ shb1
  replace shm1 := shm1.le hM_1
  refine WL_nil ?_
  refine T_n ?_
  refine WP_seq ?_
  refine WP_region ?_
  refine S_v E rfl (R_move E rfl) rfl ?_
  clear E a; intro a E
  refine S_v E rfl (R_nilCheck E rfl rfl) rfl ?_
  clear E a; intro a E
  refine S_v E rfl (R_fieldAddr E rfl (FA144_0 _)) rfl ?_
  clear E a; intro a E
  replace S := S.front1
  replace S : St w M_1 (LK p1 144 0 v1 :: _) := S
  refine S_x (X_sp (p := [LK p1 144 0 v1]) E S rfl rfl rfl (rlock_sp Tryz.rwRLib (T := 144) (n := 0) (by decide) (by decide)) (Hp.le.refl _) ?_)
  clear E a S; rintro a _ w M_2 _ hM_2 ⟨rfl, rfl⟩ S E
  replace S : St w M_2 (blk p1 (.cells #[.int .i32 0, .int .u32 0, .int .u32 0, .int .u32 0, .int .i32 1, .int .i32 0, v1] 144) :: blk p0 (.cells #[.int .i32 0, .int .u32 0, .int .u32 0, .int .u32 0, .int .i32 1, .int .i32 0, v0] 144) :: H) := S
  replace h0 := h0.le hM_2
  replace h1 := h1.le hM_2
  replace shb0 := hM_2.2 _ _ shb0
  replace shm0 := shm0.le hM_2
  replace shb1 := hM_2.2 _ _ shb1
  replace shm1 := shm1.le hM_2
  refine WL_nil ?_
  refine T_n ?_
  refine WP_seq ?_
  replace S := S.mono_heap (w' := World.drew _) rfl
  refine WP_drawn (C := fun x w => agree M_2 w ∧ (x = 3 → w.heap[p0]? = some (.cells #[.int .i32 0, .int .u32 0, .int .u32 0, .int .u32 0, .int .i32 1, .int .i32 0, v0] 144)) ∧ (x = 7 → w.heap[p1]? = some (.cells #[.int .i32 0, .int .u32 0, .int .u32 0, .int .u32 0, .int .i32 1, .int .i32 0, v1] 144))) (bf := (fun i => bif Nat.beq i 9 then [3, 7] else [])) [0, 1, 2, 3, 4, 5, 6, 7, 8, 10] [0, 1, 2, 3, 4, 5, 6, 7, 8, 9, 10] Tryz.mixed (by kernel_rfl) (fun x hq => ⟨S.imm, fun _ => (S.mem (.tail _ (.head _))), fun _ => (S.mem (.head _))⟩) ?_
  refine D_v E rfl rfl rfl (fun w hC => (R_move E rfl)) ?_
  clear E a; intro a E
  refine D_v E rfl rfl rfl (fun w hC => (R_nilCheck E rfl rfl)) ?_
  clear E a; intro a E
  refine D_v E rfl rfl rfl (fun w hC => (R_fieldAddr E rfl (FA144_1 _))) ?_
  clear E a; intro a E
  refine D_v E rfl rfl rfl (fun w hC => (R_load E rfl (Tryz.isAgg116 _) (cell_blkf (hC.2.1 rfl) rfl))) ?_
  clear E a; intro a E
  refine D_v E rfl rfl rfl (fun w hC => (R_move E rfl)) ?_
  clear E a; intro a E
  refine D_v E rfl rfl rfl (fun w hC => (R_nilCheck E rfl rfl)) ?_
  clear E a; intro a E
  refine D_v E rfl rfl rfl (fun w hC => (R_fieldAddr E rfl (FA144_1 _))) ?_
  clear E a; intro a E
  refine D_v E rfl rfl rfl (fun w hC => (R_load E rfl (Tryz.isAgg116 _) (cell_blkf (hC.2.2 rfl) rfl))) ?_
  clear E a; intro a E
  refine D_v E rfl rfl rfl (fun w hC => (R_ifaceP E rfl Tryz.underlying116)) ?_
  clear E a; intro a E
  refine D_x rfl rfl rfl (X_pu E S rfl rfl rfl (U_Equal h0 h1 (by first | assumption | omega) (by first | assumption | omega)) (Hp.le.refl _) ?_)
  clear E a S; rintro a _ w M_3 hM_3 rfl S E
  replace h0 := h0.le hM_3
  replace h1 := h1.le hM_3
  replace shb0 := hM_3.2 _ _ shb0
  replace shm0 := shm0.le hM_3
  replace shb1 := hM_3.2 _ _ shb1
  replace shm1 := shm1.le hM_3
  refine ⟨fun x hq hb => ⟨(agree_le hM_3 S.imm), (fun e => by subst e; exact absurd hb (by decide)), (fun e => by subst e; exact absurd hb (by decide))⟩, ?_⟩
  refine D_v E rfl rfl rfl (fun w hC => (R_assign E rfl)) ?_
  clear E a; intro a E
  refine D_end (NoP_n ?_)
  refine T_n ?_
  refine WP_seq ?_
  refine WP_region ?_
  refine S_v E rfl (R_move E rfl) rfl ?_
  clear E a; intro a E
  refine S_v E rfl (R_nilCheck E rfl rfl) rfl ?_
  clear E a; intro a E
  refine S_v E rfl (R_fieldAddr E rfl (FA144_0 _)) rfl ?_
  clear E a; intro a E
  replace S := S.front1
  replace S : St w M_3 (LK p0 144 (0 + 1) v0 :: _) := S
  refine S_x (X_sp (p := [LK p0 144 (0 + 1) v0]) E S rfl rfl rfl (runlock_sp Tryz.rwRLib (T := 144) (n := 0) (by decide) (by decide)) (Hp.le.refl _) ?_)
  clear E a S; rintro a _ w M_4 _ hM_4 ⟨rfl, rfl⟩ S E
  replace S : St w M_4 (blk p0 (.cells #[.int .i32 0, .int .u32 0, .int .u32 0, .int .u32 0, .int .i32 0, .int .i32 0, v0] 144) :: blk p1 (.cells #[.int .i32 0, .int .u32 0, .int .u32 0, .int .u32 0, .int .i32 1, .int .i32 0, v1] 144) :: H) := S
  replace h0 := h0.le hM_4
  replace h1 := h1.le hM_4
  replace shb0 := hM_4.2 _ _ shb0
  replace shm0 := shm0.le hM_4
  replace shb1 := hM_4.2 _ _ shb1
  replace shm1 := shm1.le hM_4
  refine WL_nil ?_
  refine T_n ?_
  refine WP_seq ?_
  refine WP_region ?_
  refine S_v E rfl (R_move E rfl) rfl ?_
  clear E a; intro a E
  refine S_v E rfl (R_nilCheck E rfl rfl) rfl ?_
  clear E a; intro a E
  refine S_v E rfl (R_fieldAddr E rfl (FA144_0 _)) rfl ?_
  clear E a; intro a E
  replace S := S.front1
  replace S : St w M_4 (LK p1 144 (0 + 1) v1 :: _) := S
  refine S_x (X_sp (p := [LK p1 144 (0 + 1) v1]) E S rfl rfl rfl (runlock_sp Tryz.rwRLib (T := 144) (n := 0) (by decide) (by decide)) (Hp.le.refl _) ?_)
  clear E a S; rintro a _ w M_5 _ hM_5 ⟨rfl, rfl⟩ S E
  replace S : St w M_5 (blk p1 (.cells #[.int .i32 0, .int .u32 0, .int .u32 0, .int .u32 0, .int .i32 0, .int .i32 0, v1] 144) :: blk p0 (.cells #[.int .i32 0, .int .u32 0, .int .u32 0, .int .u32 0, .int .i32 0, .int .i32 0, v0] 144) :: H) := S
  replace h0 := h0.le hM_5
  replace h1 := h1.le hM_5
  replace shb0 := hM_5.2 _ _ shb0
  replace shm0 := shm0.le hM_5
  replace shb1 := hM_5.2 _ _ shb1
  replace shm1 := shm1.le hM_5
  refine WL_nil ?_
  refine T_n ?_
  refine WP_seq ?_
  refine WP_region ?_
  refine S_v E rfl (R_move E rfl) rfl ?_
  clear E a; intro a E
  refine S_v E rfl (R_assign E rfl) rfl ?_
  clear E a; intro a E
  refine WL_nil ?_
  refine T_n ?_
  refine WP_ret ?_
  replace S := S.front1
  exact F_ret1 E Tryz.results170 rfl ⟨_, rfl, M_5, _, (hM_1.trans (hM_2.trans (hM_3.trans (hM_4.trans hM_5)))), ⟨rfl, rfl⟩, S⟩

set_option maxRecDepth 100000 in
set_option maxHeartbeats 4000000 in
theorem S_IsSubset {M : Hp} {p0 : Nat} {v0 : Value} {c0 : List Int} (h0 : RdSU 145 M v0 c0) {p1 : Nat} {v1 : Value} {c1 : List Int} (h1 : RdSU 145 M v1 c1) (b0 : c0.length ≤ 1000000000) (b1 : c1.length ≤ 1000000000)  :
    Sp Tryz.prog (.func (.func 175) #[] #[]) M [.pointer (some ⟨p0, 0, none⟩), .iface 114 (.pointer (some ⟨p1, 0, none⟩))] [blk p0 (.cells #[.int .i32 0, .int .u32 0, .int .u32 0, .int .u32 0, .int .i32 0, .int .i32 0, v0] 144), blk p1 (.cells #[.int .i32 0, .int .u32 0, .int .u32 0, .int .u32 0, .int .i32 0, .int .i32 0, v1] 144)] (fun r M' C' => C' = [blk p0 (.cells #[.int .i32 0, .int .u32 0, .int .u32 0, .int .u32 0, .int .i32 0, .int .i32 0, v0] 144), blk p1 (.cells #[.int .i32 0, .int .u32 0, .int .u32 0, .int .u32 0, .int .i32 0, .int .i32 0, v1] 144)] ∧ (r = .bool (sub' c0 c1))) := by
  refine Sp_enter Tryz.func175 rfl Tryz.ntmps175 rfl Tryz.call175 ?_
  intro a w M1 H hM1 S E
  replace S : St w M1 (blk p0 (.cells #[.int .i32 0, .int .u32 0, .int .u32 0, .int .u32 0, .int .i32 0, .int .i32 0, v0] 144) :: blk p1 (.cells #[.int .i32 0, .int .u32 0, .int .u32 0, .int .u32 0, .int .i32 0, .int .i32 0, v1] 144) :: _) := S
  replace h0 := h0.le hM1
  replace h1 := h1.le hM1
  have hset := h0
  obtain ⟨sb0, sm0, sq0, se0, shb0, shm0, shn0, shq0⟩ := hset
  have shq0l : sq0.length ≤ c0.length := nodup_len shn0 fun z hz => (shq0 z).1 hz
  have hset := h1
  obtain ⟨sb1, sm1, sq1, se1, shb1, shm1, shn1, shq1⟩ := hset
  have shq1l : sq1.length ≤ c1.length := nodup_len shn1 fun z hz => (shq1 z).1 hz
  refine WP_seq ?_
  refine WP_region ?_
  refine S_v E rfl (R_assign E rfl) rfl ?_
  clear E a; intro a E
  refine WL_nil ?_
  refine T_n ?_
  refine WP_seq ?_
  refine WP_region ?_
  refine S_v E rfl (R_move E rfl) rfl ?_
  clear E a; intro a E
  refine S_v E rfl (R_assert E rfl Tryz.underlying114 (by intro z hz; cases hz)) rfl ?_
  clear E a; intro a E
  refine S_v E rfl (R_assign E rfl) rfl ?_
  clear E a; intro a E
  refine WL_nil ?_
  refine T_n ?_
  refine WP_seq ?_
  refine WP_region ?_
  refine S_v E rfl (R_move E rfl) rfl ?_
  clear E a; intro a E
  refine S_v E rfl (R_nilCheck E rfl rfl) rfl ?_
  clear E a; intro a E
  refine S_v E rfl (R_fieldAddr E rfl (FA144_0 _)) rfl ?_
  clear E a; intro a E
  replace S : St w M1 (LK p0 144 0 v0 :: _) := S
  refine S_x (X_sp (p := [LK p0 144 0 v0]) E S rfl rfl rfl (rlock_sp Tryz.rwRLib (T := 144) (n := 0) (by decide) (by decide)) (Hp.le.refl _) ?_)
  clear E a S; rintro a _ w M_1 _ hM_1 ⟨rfl, rfl⟩ S E
  replace S : St w M_1 (blk p0 (.cells #[.int .i32 0, .int .u32 0, .int .u32 0, .int .u32 0, .int .i32 1, .int .i32 0, v0] 144) :: blk p1 (.cells #[.int .i32 0, .int .u32 0, .int .u32 0, .int .u32 0, .int .i32 0, .int .i32 0, v1] 144) :: H) := S
  replace h0 := h0.le hM_1
  replace h1 := h1.le hM_1
  replace shb0 := hM_1.2 _ _ shb0
  replace shm0 := shm0.le hM_1
  replace shb1 := hM_1.2 _ _ shb1
  replace shm1 := shm1.le hM_1
  refine WL_nil ?_
  refine T_n ?_
  refine WP_seq ?_
  refine WP_region ?_
  refine S_v E rfl (R_move E rfl) rfl ?_
  clear E a; intro a E
  refine S_v E rfl (R_nilCheck E rfl rfl) rfl ?_
  clear E a; intro a E
  refine S_v E rfl (R_fieldAddr E rfl (FA144_0 _)) rfl ?_
  clear E a; intro a E
  replace S := S.front1
  replace S : St w M_1 (LK p1 144 0 v1 :: _) := S
  refine S_x (X_sp (p := [LK p1 144 0 v1]) E S rfl rfl rfl (rlock_sp Tryz.rwRLib (T := 144) (n := 0) (by decide) (by decide)) (Hp.le.refl _) ?_)
  clear E a S; rintro a _ w M_2 _ hM_2 ⟨rfl, rfl⟩ S E
  replace S : St w M_2 (blk p1 (.cells #[.int .i32 0, .int .u32 0, .int .u32 0, .int .u32 0, .int .i32 1, .int .i32 0, v1] 144) :: blk p0 (.cells #[.int .i32 0, .int .u32 0, .int .u32 0, .int .u32 0, .int .i32 1, .int .i32 0, v0] 144) :: H) := S
  replace h0 := h0.le hM_2
  replace h1 := h1.le hM_2
  replace shb0 := hM_2.2 _ _ shb0
  replace shm0 := shm0.le hM_2
  replace shb1 := hM_2.2 _ _ shb1
  replace shm1 := shm1.le hM_2
  refine WL_nil ?_
  refine T_n ?_
  refine WP_seq ?_
  replace S := S.mono_heap (w' := World.drew _) rfl
  refine WP_drawn (C := fun x w => agree M_2 w ∧ (x = 3 → w.heap[p0]? = some (.cells #[.int .i32 0, .int .u32 0, .int .u32 0, .int .u32 0, .int .i32 1, .int .i32 0, v0] 144)) ∧ (x = 7 → w.heap[p1]? = some (.cells #[.int .i32 0, .int .u32 0, .int .u32 0, .int .u32 0, .int .i32 1, .int .i32 0, v1] 144))) (bf := (fun i => bif Nat.beq i 9 then [3, 7] else [])) [0, 1, 2, 3, 4, 5, 6, 7, 8, 10] [0, 1, 2, 3, 4, 5, 6, 7, 8, 9, 10] Tryz.mixed (by kernel_rfl) (fun x hq => ⟨S.imm, fun _ => (S.mem (.tail _ (.head _))), fun _ => (S.mem (.head _))⟩) ?_
  refine D_v E rfl rfl rfl (fun w hC => (R_move E rfl)) ?_
  clear E a; intro a E
  refine D_v E rfl rfl rfl (fun w hC => (R_nilCheck E rfl rfl)) ?_
  clear E a; intro a E
  refine D_v E rfl rfl rfl (fun w hC => (R_fieldAddr E rfl (FA144_1 _))) ?_
  clear E a; intro a E
  refine D_v E rfl rfl rfl (fun w hC => (R_load E rfl (Tryz.isAgg116 _) (cell_blkf (hC.2.1 rfl) rfl))) ?_
  clear E a; intro a E
  refine D_v E rfl rfl rfl (fun w hC => (R_move E rfl)) ?_
  clear E a; intro a E
  refine D_v E rfl rfl rfl (fun w hC => (R_nilCheck E rfl rfl)) ?_
  clear E a; intro a E
  refine D_v E rfl rfl rfl (fun w hC => (R_fieldAddr E rfl (FA144_1 _))) ?_
  clear E a; intro a E
  refine D_v E rfl rfl rfl (fun w hC => (R_load E rfl (Tryz.isAgg116 _) (cell_blkf (hC.2.2 rfl) rfl))) ?_
  clear E a; intro a E
  refine D_v E rfl rfl rfl (fun w hC => (R_ifaceP E rfl Tryz.underlying116)) ?_
  clear E a; intro a E
  refine D_x rfl rfl rfl (X_pu E S rfl rfl rfl (U_IsSubset h0 h1 (by first | assumption | omega) (by first | assumption | omega)) (Hp.le.refl _) ?_)
  clear E a S; rintro a _ w M_3 hM_3 rfl S E
  replace h0 := h0.le hM_3
  replace h1 := h1.le hM_3
  replace shb0 := hM_3.2 _ _ shb0
  replace shm0 := shm0.le hM_3
  replace shb1 := hM_3.2 _ _ shb1
  replace shm1 := shm1.le hM_3
  refine ⟨fun x hq hb => ⟨(agree_le hM_3 S.imm), (fun e => by subst e; exact absurd hb (by decide)), (fun e => by subst e; exact absurd hb (by decide))⟩, ?_⟩
  refine D_v E rfl rfl rfl (fun w hC => (R_assign E rfl)) ?_
  clear E a; intro a E
  refine D_end (NoP_n ?_)
  refine T_n ?_
  refine WP_seq ?_
  refine WP_region ?_
  refine S_v E rfl (R_move E rfl) rfl ?_
  clear E a; intro a E
  refine S_v E rfl (R_nilCheck E rfl rfl) rfl ?_
  clear E a; intro a E
  refine S_v E rfl (R_fieldAddr E rfl (FA144_0 _)) rfl ?_
  clear E a; intro a E
  replace S := S.front1
  replace S : St w M_3 (LK p0 144 (0 + 1) v0 :: _) := S
  refine S_x (X_sp (p := [LK p0 144 (0 + 1) v0]) E S rfl rfl rfl (runlock_sp Tryz.rwRLib (T := 144) (n := 0) (by decide) (by decide)) (Hp.le.refl _) ?_)
  clear E a S; rintro a _ w M_4 _ hM_4 ⟨rfl, rfl⟩ S E
  replace S : St w M_4 (blk p0 (.cells #[.int .i32 0, .int .u32 0, .int .u32 0, .int .u32 0, .int .i32 0, .int .i32 0, v0] 144) :: blk p1 (.cells #[.int .i32 0, .int .u32 0, .int .u32 0, .int .u32 0, .int .i32 1, .int .i32 0, v1] 144) :: H) := S
  replace h0 := h0.le hM_4
  replace h1 := h1.le hM_4
  replace shb0 := hM_4.2 _ _ shb0
  replace shm0 := shm0.le hM_4
  replace shb1 := hM_4.2 _ _ shb1
  replace shm1 := shm1.le hM_4
  refine WL_nil ?_
  refine T_n ?_
  refine WP_seq ?_
  refine WP_region ?_
  refine S_v E rfl (R_move E rfl) rfl ?_
  clear E a; intro a E
  refine S_v E rfl (R_nilCheck E rfl rfl) rfl ?_
  clear E a; intro a E
  refine S_v E rfl (R_fieldAddr E rfl (FA144_0 _)) rfl ?_
  clear E a; intro a E
  replace S := S.front1
  replace S : St w M_4 (LK p1 144 (0 + 1) v1 :: _) := S
  refine S_x (X_sp (p := [LK p1 144 (0 + 1) v1]) E S rfl rfl rfl (runlock_sp Tryz.rwRLib (T := 144) (n := 0) (by decide) (by decide)) (Hp.le.refl _) ?_)
  clear E a S; rintro a _ w M_5 _ hM_5 ⟨rfl, rfl⟩ S E
  replace S : St w M_5 (blk p1 (.cells #[.int .i32 0, .int .u32 0, .int .u32 0, .int .u32 0, .int .i32 0, .int .i32 0, v1] 144) :: blk p0 (.cells #[.int .i32 0, .int .u32 0, .int .u32 0, .int .u32 0, .int .i32 0, .int .i32 0, v0] 144) :: H) := S
  replace h0 := h0.le hM_5
  replace h1 := h1.le hM_5
  replace shb0 := hM_5.2 _ _ shb0
  replace shm0 := shm0.le hM_5
  replace shb1 := hM_5.2 _ _ shb1
  replace shm1 := shm1.le hM_5
  refine WL_nil ?_
  refine T_n ?_
  refine WP_seq ?_
  refine WP_region ?_
  refine S_v E rfl (R_move E rfl) rfl ?_
  clear E a; intro a E
  refine S_v E rfl (R_assign E rfl) rfl ?_
  clear E a; intro a E
  refine WL_nil ?_
  refine T_n ?_
  refine WP_ret ?_
  replace S := S.front1
  exact F_ret1 E Tryz.results175 rfl ⟨_, rfl, M_5, _, (hM_1.trans (hM_2.trans (hM_3.trans (hM_4.trans hM_5)))), ⟨rfl, rfl⟩, S⟩

set_option maxRecDepth 100000 in
set_option maxHeartbeats 4000000 in
theorem S_IsProperSubset {M : Hp} {p0 : Nat} {v0 : Value} {c0 : List Int} (h0 : RdSU 145 M v0 c0) {p1 : Nat} {v1 : Value} {c1 : List Int} (h1 : RdSU 145 M v1 c1) (b0 : c0.length ≤ 1000000000) (b1 : c1.length ≤ 1000000000)  :
    Sp Tryz.prog (.func (.func 173) #[] #[]) M [.pointer (some ⟨p0, 0, none⟩), .iface 114 (.pointer (some ⟨p1, 0, none⟩))] [blk p0 (.cells #[.int .i32 0, .int .u32 0, .int .u32 0, .int .u32 0, .int .i32 0, .int .i32 0, v0] 144), blk p1 (.cells #[.int .i32 0, .int .u32 0, .int .u32 0, .int .u32 0, .int .i32 0, .int .i32 0, v1] 144)] (fun r M' C' => C' = [blk p0 (.cells #[.int .i32 0, .int .u32 0, .int .u32 0, .int .u32 0, .int .i32 0, .int .i32 0, v0] 144), blk p1 (.cells #[.int .i32 0, .int .u32 0, .int .u32 0, .int .u32 0, .int .i32 0, .int .i32 0, v1] 144)] ∧ (r = .bool ((decide (card c0 < card c1)) && sub' c0 c1))) := by
  refine Sp_enter Tryz.func173 rfl Tryz.ntmps173 rfl Tryz.call173 ?_
  intro a w M1 H hM1 S E
  replace S : St w M1 (blk p0 (.cells #[.int .i32 0, .int .u32 0, .int .u32 0, .int .u32 0, .int .i32 0, .int .i32 0, v0] 144) :: blk p1 (.cells #[.int .i32 0, .int .u32 0, .int .u32 0, .int .u32 0, .int .i32 0, .int .i32 0, v1] 144) :: _) := S
  replace h0 := h0.le hM1
  replace h1 := h1.le hM1
  have hset := h0
  obtain ⟨sb0, sm0, sq0, se0, shb0, shm0, shn0, shq0⟩ := hset
  have shq0l : sq0.length ≤ c0.length := nodup_len shn0 fun z hz => (shq0 z).1 hz
  have hset := h1
  obtain ⟨sb1, sm1, sq1, se1, shb1, shm1, shn1, shq1⟩ := hset
  have shq1l : sq1.length ≤ c1.length := nodup_len shn1 fun z hz => (shq1 z).1 hz
  refine WP_seq ?_
  refine WP_region ?_
  refine S_v E rfl (R_assign E rfl) rfl ?_
  clear E a; intro a E
  refine WL_nil ?_
  refine T_n ?_
  refine WP_seq ?_
  refine WP_region ?_
  refine S_v E rfl (R_move E rfl) rfl ?_
  clear E a; intro a E
  refine S_v E rfl (R_assert E rfl Tryz.underlying114 (by intro z hz; cases hz)) rfl ?_
  clear E a; intro a E
  refine S_v E rfl (R_assign E rfl) rfl ?_
  clear E a; intro a E
  refine WL_nil ?_
  refine T_n ?_
  refine WP_seq ?_
  refine WP_region ?_
  refine S_v E rfl (R_move E rfl) rfl ?_
  clear E a; intro a E
  refine S_v E rfl (R_nilCheck E rfl rfl) rfl ?_
  clear E a; intro a E
  refine S_v E rfl (R_fieldAddr E rfl (FA144_0 _)) rfl ?_
  clear E a; intro a E
  replace S : St w M1 (LK p0 144 0 v0 :: _) := S
  refine S_x (X_sp (p := [LK p0 144 0 v0]) E S rfl rfl rfl (rlock_sp Tryz.rwRLib (T := 144) (n := 0) (by decide) (by decide)) (Hp.le.refl _) ?_)
  clear E a S; rintro a _ w M_1 _ hM_1 ⟨rfl, rfl⟩ S E
  replace S : St w M_1 (blk p0 (.cells #[.int .i32 0, .int .u32 0, .int .u32 0, .int .u32 0, .int .i32 1, .int .i32 0, v0] 144) :: blk p1 (.cells #[.int .i32 0, .int .u32 0, .int .u32 0, .int .u32 0, .int .i32 0, .int .i32 0, v1] 144) :: H) := S
  replace h0 := h0.le hM_1
  replace h1 := h1.le hM_1
  replace shb0 := hM_1.2 _ _ shb0
  replace shm0 := shm0.le hM_1
  replace shb1 := hM_1.2 _ _ shb1
  replace shm1 := shm1.le hM_1
  refine WL_nil ?_
  refine T_n ?_
  refine WP_seq ?_
  refine WP_region ?_
  refine S_v E rfl (R_move E rfl) rfl ?_
  clear E a; intro a E
  refine S_v E rfl (R_nilCheck E rfl rfl) rfl ?_
  clear E a; intro a E
  refine S_v E rfl (R_fieldAddr E rfl (FA144_0 _)) rfl ?_
  clear E a; intro a E
  refine S_deferA E rfl rfl ?_
  clear E a; intro a E
  replace E : Env a 32 [⟨.fn (.func 186) #[], #[.pointer (some ⟨p0, 0, none⟩)]⟩] _ := E
  refine WL_nil ?_
  refine T_n ?_
  refine WP_seq ?_
  refine WP_region ?_
  refine S_v E rfl (R_move E rfl) rfl ?_
  clear E a; intro a E
  refine S_v E rfl (R_nilCheck E rfl rfl) rfl ?_
  clear E a; intro a E
  refine S_v E rfl (R_fieldAddr E rfl (FA144_0 _)) rfl ?_
  clear E a; intro a E
  replace S := S.front1
  replace S : St w M_1 (LK p1 144 0 v1 :: _) := S
  refine S_x (X_sp (p := [LK p1 144 0 v1]) E S rfl rfl rfl (rlock_sp Tryz.rwRLib (T := 144) (n := 0) (by decide) (by decide)) (Hp.le.refl _) ?_)
  clear E a S; rintro a _ w M_2 _ hM_2 ⟨rfl, rfl⟩ S E
  replace S : St w M_2 (blk p1 (.cells #[.int .i32 0, .int .u32 0, .int .u32 0, .int .u32 0, .int .i32 1, .int .i32 0, v1] 144) :: blk p0 (.cells #[.int .i32 0, .int .u32 0, .int .u32 0, .int .u32 0, .int .i32 1, .int .i32 0, v0] 144) :: H) := S
  replace h0 := h0.le hM_2
  replace h1 := h1.le hM_2
  replace shb0 := hM_2.2 _ _ shb0
  replace shm0 := shm0.le hM_2
  replace shb1 := hM_2.2 _ _ shb1
  replace shm1 := shm1.le hM_2
  refine WL_nil ?_
  refine T_n ?_
  refine WP_seq ?_
  refine WP_region ?_
  refine S_v E rfl (R_move E rfl) rfl ?_
  clear E a; intro a E
  refine S_v E rfl (R_nilCheck E rfl rfl) rfl ?_
  clear E a; intro a E
  refine S_v E rfl (R_fieldAddr E rfl (FA144_0 _)) rfl ?_
  clear E a; intro a E
  refine S_deferA E rfl rfl ?_
  clear E a; intro a E
  replace E : Env a 32 [⟨.fn (.func 186) #[], #[.pointer (some ⟨p1, 0, none⟩)]⟩, ⟨.fn (.func 186) #[], #[.pointer (some ⟨p0, 0, none⟩)]⟩] _ := E
  refine WL_nil ?_
  refine T_n ?_
  refine WP_seq ?_
  replace S := S.mono_heap (w' := World.drew _) rfl
  refine WP_drawn (C := fun x w => agree M_2 w ∧ (x = 3 → w.heap[p0]? = some (.cells #[.int .i32 0, .int .u32 0, .int .u32 0, .int .u32 0, .int .i32 1, .int .i32 0, v0] 144)) ∧ (x = 7 → w.heap[p1]? = some (.cells #[.int .i32 0, .int .u32 0, .int .u32 0, .int .u32 0, .int .i32 1, .int .i32 0, v1] 144))) (bf := (fun i => bif Nat.beq i 9 then [3, 7] else [])) [0, 1, 2, 3, 4, 5, 6, 7, 8, 10] [0, 1, 2, 3, 4, 5, 6, 7, 8, 9, 10] Tryz.mixed (by kernel_rfl) (fun x hq => ⟨S.imm, fun _ => (S.mem (.tail _ (.head _))), fun _ => (S.mem (.head _))⟩) ?_
  refine D_v E rfl rfl rfl (fun w hC => (R_move E rfl)) ?_
  clear E a; intro a E
  refine D_v E rfl rfl rfl (fun w hC => (R_nilCheck E rfl rfl)) ?_
  clear E a; intro a E
  refine D_v E rfl rfl rfl (fun w hC => (R_fieldAddr E rfl (FA144_1 _))) ?_
  clear E a; intro a E
  refine D_v E rfl rfl rfl (fun w hC => (R_load E rfl (Tryz.isAgg116 _) (cell_blkf (hC.2.1 rfl) rfl))) ?_
  clear E a; intro a E
  refine D_v E rfl rfl rfl (fun w hC => (R_move E rfl)) ?_
  clear E a; intro a E
  refine D_v E rfl rfl rfl (fun w hC => (R_nilCheck E rfl rfl)) ?_
  clear E a; intro a E
  refine D_v E rfl rfl rfl (fun w hC => (R_fieldAddr E rfl (FA144_1 _))) ?_
  clear E a; intro a E
  refine D_v E rfl rfl rfl (fun w hC => (R_load E rfl (Tryz.isAgg116 _) (cell_blkf (hC.2.2 rfl) rfl))) ?_
  clear E a; intro a E
  refine D_v E rfl rfl rfl (fun w hC => (R_ifaceP E rfl Tryz.underlying116)) ?_
  clear E a; intro a E
  refine D_x rfl rfl rfl (X_pu E S rfl rfl rfl (U_IsProperSubset h0 h1 (by first | assumption | omega) (by first | assumption | omega)) (Hp.le.refl _) ?_)
  clear E a S; rintro a _ w M_3 hM_3 rfl S E
  replace h0 := h0.le hM_3
  replace h1 := h1.le hM_3
  replace shb0 := hM_3.2 _ _ shb0
  replace shm0 := shm0.le hM_3
  replace shb1 := hM_3.2 _ _ shb1
  replace shm1 := shm1.le hM_3
  refine ⟨fun x hq hb => ⟨(agree_le hM_3 S.imm), (fun e => by subst e; exact absurd hb (by decide)), (fun e => by subst e; exact absurd hb (by decide))⟩, ?_⟩
  refine D_v E rfl rfl rfl (fun w hC => (R_assign E rfl)) ?_
  clear E a; intro a E
  refine D_end (NoP_n ?_)
  refine T_n ?_
  refine WP_ret ?_
  replace S := S.front1
  refine F_retL1 E Tryz.results173 rfl (fun hres => ?_)
  clear E
  replace S := S.front1
  replace S : St w M_3 (LK p1 144 (0 + 1) v1 :: _) := S
  refine LV_runlock Tryz.rwRLib (n := 0) (by decide) (by decide) S (fun w S => ?_)
  replace S : St w M_3 (blk p1 (.cells #[.int .i32 0, .int .u32 0, .int .u32 0, .int .u32 0, .int .i32 0, .int .i32 0, v1] 144) :: blk p0 (.cells #[.int .i32 0, .int .u32 0, .int .u32 0, .int .u32 0, .int .i32 1, .int .i32 0, v0] 144) :: H) := S
  replace S := S.front1
  replace S : St w M_3 (LK p0 144 (0 + 1) v0 :: _) := S
  refine LV_runlock Tryz.rwRLib (n := 0) (by decide) (by decide) S (fun w S => ?_)
  replace S : St w M_3 (blk p0 (.cells #[.int .i32 0, .int .u32 0, .int .u32 0, .int .u32 0, .int .i32 0, .int .i32 0, v0] 144) :: blk p1 (.cells #[.int .i32 0, .int .u32 0, .int .u32 0, .int .u32 0, .int .i32 0, .int .i32 0, v1] 144) :: H) := S
  replace S := S.front1
  replace S := S.front1
  exact LV_nil (hres _) ⟨_, rfl, M_3, _, (hM_1.trans (hM_2.trans hM_3)), ⟨rfl, rfl⟩, S⟩

set_option maxRecDepth 100000 in
set_option maxHeartbeats 4000000 in
theorem S_IsSuperset {M : Hp} {p0 : Nat} {v0 : Value} {c0 : List Int} (h0 : RdSU 145 M v0 c0) {p1 : Nat} {v1 : Value} {c1 : List Int} (h1 : RdSU 145 M v1 c1) (b0 : c0.length ≤ 1000000000) (b1 : c1.length ≤ 1000000000)  :
    Sp Tryz.prog (.func (.func 176) #[] #[]) M [.pointer (some ⟨p0, 0, none⟩), .iface 114 (.pointer (some ⟨p1, 0, none⟩))] [blk p0 (.cells #[.int .i32 0, .int .u32 0, .int .u32 0, .int .u32 0, .int .i32 0, .int .i32 0, v0] 144), blk p1 (.cells #[.int .i32 0, .int .u32 0, .int .u32 0, .int .u32 0, .int .i32 0, .int .i32 0, v1] 144)] (fun r M' C' => C' = [blk p0 (.cells #[.int .i32 0, .int .u32 0, .int .u32 0, .int .u32 0, .int .i32 0, .int .i32 0, v0] 144), blk p1 (.cells #[.int .i32 0, .int .u32 0, .int .u32 0, .int .u32 0, .int .i32 0, .int .i32 0, v1] 144)] ∧ (r = .bool (sub' c1 c0))) := by
  refine Sp_enter Tryz.func176 rfl Tryz.ntmps176 rfl Tryz.call176 ?_
  intro a w M1 H hM1 S E
  replace S : St w M1 (blk p0 (.cells #[.int .i32 0, .int .u32 0, .int .u32 0, .int .u32 0, .int .i32 0, .int .i32 0, v0] 144) :: blk p1 (.cells #[.int .i32 0, .int .u32 0, .int .u32 0, .int .u32 0, .int .i32 0, .int .i32 0, v1] 144) :: _) := S
  replace h0 := h0.le hM1
  replace h1 := h1.le hM1
  have hset := h0
  obtain ⟨sb0, sm0, sq0, se0, shb0, shm0, shn0, shq0⟩ := hset
  have shq0l : sq0.length ≤ c0.length := nodup_len shn0 fun z hz => (shq0 z).1 hz
  have hset := h1
  obtain ⟨sb1, sm1, sq1, se1, shb1, shm1, shn1, shq1⟩ := hset
  have shq1l : sq1.length ≤ c1.length := nodup_len shn1 fun z hz => (shq1 z).1 hz
  refine WP_seq ?_
  refine WP_region ?_
  refine S_v E rfl (R_assign E rfl) rfl ?_
  clear E a; intro a E
  refine WL_nil ?_
  refine T_n ?_
  refine WP_seq ?_
  refine WP_region ?_
  refine S_v E rfl (R_move E rfl) rfl ?_
  clear E a; intro a E
  refine S_v E rfl (R_move E rfl) rfl ?_
  clear E a; intro a E
  refine S_v E rfl (R_ifaceP E rfl Tryz.underlying114) rfl ?_
  clear E a; intro a E
  replace S := S.front1
  refine S_x (X_spI (p := [blk p1 (.cells #[.int .i32 0, .int .u32 0, .int .u32 0, .int .u32 0, .int .i32 0, .int .i32 0, v1] 144), blk p0 (.cells #[.int .i32 0, .int .u32 0, .int .u32 0, .int .u32 0, .int .i32 0, .int .i32 0, v0] 144)]) E S rfl rfl rfl (meth_114_IsSubset _ _) Tryz.call175 (S_IsSubset h1 h0 (by first | assumption | omega) (by first | assumption | omega)) (Hp.le.refl _) ?_)
  clear E a S; rintro a _ w M_1 _ hM_1 ⟨rfl, rfl⟩ S E
  replace S : St w M_1 (blk p1 (.cells #[.int .i32 0, .int .u32 0, .int .u32 0, .int .u32 0, .int .i32 0, .int .i32 0, v1] 144) :: blk p0 (.cells #[.int .i32 0, .int .u32 0, .int .u32 0, .int .u32 0, .int .i32 0, .int .i32 0, v0] 144) :: H) := S
  replace h0 := h0.le hM_1
  replace h1 := h1.le hM_1
  replace shb0 := hM_1.2 _ _ shb0
  replace shm0 := shm0.le hM_1
  replace shb1 := hM_1.2 _ _ shb1
  replace shm1 := shm1.le hM_1
  refine S_v E rfl (R_assign E rfl) rfl ?_
  clear E a; intro a E
  refine WL_nil ?_
  refine T_n ?_
  refine WP_ret ?_
  replace S := S.front1
  exact F_ret1 E Tryz.results176 rfl ⟨_, rfl, M_1, _, hM_1, ⟨rfl, rfl⟩, S⟩

set_option maxRecDepth 100000 in
set_option maxHeartbeats 4000000 in
theorem S_IsProperSuperset {M : Hp} {p0 : Nat} {v0 : Value} {c0 : List Int} (h0 : RdSU 145 M v0 c0) {p1 : Nat} {v1 : Value} {c1 : List Int} (h1 : RdSU 145 M v1 c1) (b0 : c0.length ≤ 1000000000) (b1 : c1.length ≤ 1000000000)  :
    Sp Tryz.prog (.func (.func 174) #[] #[]) M [.pointer (some ⟨p0, 0, none⟩), .iface 114 (.pointer (some ⟨p1, 0, none⟩))] [blk p0 (.cells #[.int .i32 0, .int .u32 0, .int .u32 0, .int .u32 0, .int .i32 0, .int .i32 0, v0] 144), blk p1 (.cells #[.int .i32 0, .int .u32 0, .int .u32 0, .int .u32 0, .int .i32 0, .int .i32 0, v1] 144)] (fun r M' C' => C' = [blk p0 (.cells #[.int .i32 0, .int .u32 0, .int .u32 0, .int .u32 0, .int .i32 0, .int .i32 0, v0] 144), blk p1 (.cells #[.int .i32 0, .int .u32 0, .int .u32 0, .int .u32 0, .int .i32 0, .int .i32 0, v1] 144)] ∧ (r = .bool ((decide (card c1 < card c0)) && sub' c1 c0))) := by
  refine Sp_enter Tryz.func174 rfl Tryz.ntmps174 rfl Tryz.call174 ?_
  intro a w M1 H hM1 S E
  replace S : St w M1 (blk p0 (.cells #[.int .i32 0, .int .u32 0, .int .u32 0, .int .u32 0, .int .i32 0, .int .i32 0, v0] 144) :: blk p1 (.cells #[.int .i32 0, .int .u32 0, .int .u32 0, .int .u32 0, .int .i32 0, .int .i32 0, v1] 144) :: _) := S
  replace h0 := h0.le hM1
  replace h1 := h1.le hM1
  have hset := h0
  obtain ⟨sb0, sm0, sq0, se0, shb0, shm0, shn0, shq0⟩ := hset
  have shq0l : sq0.length ≤ c0.length := nodup_len shn0 fun z hz => (shq0 z).1 hz
  have hset := h1
  obtain ⟨sb1, sm1, sq1, se1, shb1, shm1, shn1, shq1⟩ := hset
  have shq1l : sq1.length ≤ c1.length := nodup_len shn1 fun z hz => (shq1 z).1 hz
  refine WP_seq ?_
  refine WP_region ?_
  refine S_v E rfl (R_assign E rfl) rfl ?_
  clear E a; intro a E
  refine WL_nil ?_
  refine T_n ?_
  refine WP_seq ?_
  refine WP_region ?_
  refine S_v E rfl (R_move E rfl) rfl ?_
  clear E a; intro a E
  refine S_v E rfl (R_move E rfl) rfl ?_
  clear E a; intro a E
  refine S_v E rfl (R_ifaceP E rfl Tryz.underlying114) rfl ?_
  clear E a; intro a E
  replace S := S.front1
  refine S_x (X_spI (p := [blk p1 (.cells #[.int .i32 0, .int .u32 0, .int .u32 0, .int .u32 0, .int .i32 0, .int .i32 0, v1] 144), blk p0 (.cells #[.int .i32 0, .int .u32 0, .int .u32 0, .int .u32 0, .int .i32 0, .int .i32 0, v0] 144)]) E S rfl rfl rfl (meth_114_IsProperSubset _ _) Tryz.call173 (S_IsProperSubset h1 h0 (by first | assumption | omega) (by first | assumption | omega)) (Hp.le.refl _) ?_)
  clear E a S; rintro a _ w M_1 _ hM_1 ⟨rfl, rfl⟩ S E
  replace S : St w M_1 (blk p1 (.cells #[.int .i32 0, .int .u32 0, .int .u32 0, .int .u32 0, .int .i32 0, .int .i32 0, v1] 144) :: blk p0 (.cells #[.int .i32 0, .int .u32 0, .int .u32 0, .int .u32 0, .int .i32 0, .int .i32 0, v0] 144) :: H) := S
  replace h0 := h0.le hM_1
  replace h1 := h1.le hM_1
  replace shb0 := hM_1.2 _ _ shb0
  replace shm0 := shm0.le hM_1
  replace shb1 := hM_1.2 _ _ shb1
  replace shm1 := shm1.le hM_1
  refine S_v E rfl (R_assign E rfl) rfl ?_
  clear E a; intro a E
  refine WL_nil ?_
  refine T_n ?_
  refine WP_ret ?_
  replace S := S.front1
  exact F_ret1 E Tryz.results174 rfl ⟨_, rfl, M_1, _, hM_1, ⟨rfl, rfl⟩, S⟩

set_option maxRecDepth 100000 in
set_option maxHeartbeats 4000000 in
theorem S_ContainsAnyElement {M : Hp} {p0 : Nat} {v0 : Value} {c0 : List Int} (h0 : RdSU 145 M v0 c0) {p1 : Nat} {v1 : Value} {c1 : List Int} (h1 : RdSU 145 M v1 c1) (b0 : c0.length ≤ 1000000000) (b1 : c1.length ≤ 1000000000)  :
    Sp Tryz.prog (.func (.func 166) #[] #[]) M [.pointer (some ⟨p0, 0, none⟩), .iface 114 (.pointer (some ⟨p1, 0, none⟩))] [blk p0 (.cells #[.int .i32 0, .int .u32 0, .int .u32 0, .int .u32 0, .int .i32 0, .int .i32 0, v0] 144), blk p1 (.cells #[.int .i32 0, .int .u32 0, .int .u32 0, .int .u32 0, .int .i32 0, .int .i32 0, v1] 144)] (fun r M' C' => C' = [blk p0 (.cells #[.int .i32 0, .int .u32 0, .int .u32 0, .int .u32 0, .int .i32 0, .int .i32 0, v0] 144), blk p1 (.cells #[.int .i32 0, .int .u32 0, .int .u32 0, .int .u32 0, .int .i32 0, .int .i32 0, v1] 144)] ∧ (r = .bool (any' c0 c1))) := by
  refine Sp_enter Tryz.func166 rfl Tryz.ntmps166 rfl Tryz.call166 ?_
  intro a w M1 H hM1 S E
  replace S : St w M1 (blk p0 (.cells #[.int .i32 0, .int .u32 0, .int .u32 0, .int .u32 0, .int .i32 0, .int .i32 0, v0] 144) :: blk p1 (.cells #[.int .i32 0, .int .u32 0, .int .u32 0, .int .u32 0, .int .i32 0, .int .i32 0, v1] 144) :: _) := S
  replace h0 := h0.le hM1
  replace h1 := h1.le hM1
  have hset := h0
  obtain ⟨sb0, sm0, sq0, se0, shb0, shm0, shn0, shq0⟩ := hset
  have shq0l : sq0.length ≤ c0.length := nodup_len shn0 fun z hz => (shq0 z).1 hz
  have hset := h1
  obtain ⟨sb1, sm1, sq1, se1, shb1, shm1, shn1, shq1⟩ := hset
  have shq1l : sq1.length ≤ c1.length := nodup_len shn1 fun z hz => (shq1 z).1 hz
  refine WP_seq ?_
  refine WP_region ?_
  refine S_v E rfl (R_assign E rfl) rfl ?_
  clear E a; intro a E
  refine WL_nil ?_
  refine T_n ?_
  refine WP_seq ?_
  refine WP_region ?_
  refine S_v E rfl (R_move E rfl) rfl ?_
  clear E a; intro a E
  refine S_v E rfl (R_assert E rfl Tryz.underlying114 (by intro z hz; cases hz)) rfl ?_
  clear E a; intro a E
  refine S_v E rfl (R_assign E rfl) rfl ?_
  clear E a; intro a E
  refine WL_nil ?_
  refine T_n ?_
  refine WP_seq ?_
  refine WP_region ?_
  refine S_v E rfl (R_move E rfl) rfl ?_
  clear E a; intro a E
  refine S_v E rfl (R_nilCheck E rfl rfl) rfl ?_
  clear E a; intro a E
  refine S_v E rfl (R_fieldAddr E rfl (FA144_0 _)) rfl ?_
  clear E a; intro a E
  replace S : St w M1 (LK p0 144 0 v0 :: _) := S
  refine S_x (X_sp (p := [LK p0 144 0 v0]) E S rfl rfl rfl (rlock_sp Tryz.rwRLib (T := 144) (n := 0) (by decide) (by decide)) (Hp.le.refl _) ?_)
  clear E a S; rintro a _ w M_1 _ hM_1 ⟨rfl, rfl⟩ S E
  replace S : St w M_1 (blk p0 (.cells #[.int .i32 0, .int .u32 0, .int .u32 0, .int .u32 0, .int .i32 1, .int .i32 0, v0] 144) :: blk p1 (.cells #[.int .i32 0, .int .u32 0, .int .u32 0, .int .u32 0, .int .i32 0, .int .i32 0, v1] 144) :: H) := S
  replace h0 := h0.le hM_1
  replace h1 := h1.le hM_1
  replace shb0 := hM_1.2 _ _ shb0
  replace shm0 := shm0.le hM_1
  replace shb1 := hM_1.2 _ _ shb1
  replace shm1 := shm1.le hM_1
  refine WL_nil ?_
  refine T_n ?_
  refine WP_seq ?_
  refine WP_region ?_
  refine S_v E rfl (R_move E rfl) rfl ?_
  clear E a; intro a E
  refine S_v E rfl (R_nilCheck E rfl rfl) rfl ?_
  clear E a; intro a E
  refine S_v E rfl (R_fieldAddr E rfl (FA144_0 _)) rfl ?_
  clear E a; intro a E
  replace S := S.front1
  replace S : St w M_1 (LK p1 144 0 v1 :: _) := S
  refine S_x (X_sp (p := [LK p1 144 0 v1]) E S rfl rfl rfl (rlock_sp Tryz.rwRLib (T := 144) (n := 0) (by decide) (by decide)) (Hp.le.refl _) ?_)
  clear E a S; rintro a _ w M_2 _ hM_2 ⟨rfl, rfl⟩ S E
  replace S : St w M_2 (blk p1 (.cells #[.int .i32 0, .int .u32 0, .int .u32 0, .int .u32 0, .int .i32 1, .int .i32 0, v1] 144) :: blk p0 (.cells #[.int .i32 0, .int .u32 0, .int .u32 0, .int .u32 0, .int .i32 1, .int .i32 0, v0] 144) :: H) := S
  replace h0 := h0.le hM_2
  replace h1 := h1.le hM_2
  replace shb0 := hM_2.2 _ _ shb0
  replace shm0 := shm0.le hM_2
  replace shb1 := hM_2.2 _ _ shb1
  replace shm1 := shm1.le hM_2
  refine WL_nil ?_
  refine T_n ?_
  refine WP_seq ?_
  replace S := S.mono_heap (w' := World.drew _) rfl
  refine WP_drawn (C := fun x w => agree M_2 w ∧ (x = 3 → w.heap[p0]? = some (.cells #[.int .i32 0, .int .u32 0, .int .u32 0, .int .u32 0, .int .i32 1, .int .i32 0, v0] 144)) ∧ (x = 7 → w.heap[p1]? = some (.cells #[.int .i32 0, .int .u32 0, .int .u32 0, .int .u32 0, .int .i32 1, .int .i32 0, v1] 144))) (bf := (fun i => bif Nat.beq i 9 then [3, 7] else [])) [0, 1, 2, 3, 4, 5, 6, 7, 8, 10] [0, 1, 2, 3, 4, 5, 6, 7, 8, 9, 10] Tryz.mixed (by kernel_rfl) (fun x hq => ⟨S.imm, fun _ => (S.mem (.tail _ (.head _))), fun _ => (S.mem (.head _))⟩) ?_
  refine D_v E rfl rfl rfl (fun w hC => (R_move E rfl)) ?_
  clear E a; intro a E
  refine D_v E rfl rfl rfl (fun w hC => (R_nilCheck E rfl rfl)) ?_
  clear E a; intro a E
  refine D_v E rfl rfl rfl (fun w hC => (R_fieldAddr E rfl (FA144_1 _))) ?_
  clear E a; intro a E
  refine D_v E rfl rfl rfl (fun w hC => (R_load E rfl (Tryz.isAgg116 _) (cell_blkf (hC.2.1 rfl) rfl))) ?_
  clear E a; intro a E
  refine D_v E rfl rfl rfl (fun w hC => (R_move E rfl)) ?_
  clear E a; intro a E
  refine D_v E rfl rfl rfl (fun w hC => (R_nilCheck E rfl rfl)) ?_
  clear E a; intro a E
  refine D_v E rfl rfl rfl (fun w hC => (R_fieldAddr E rfl (FA144_1 _))) ?_
  clear E a; intro a E
  refine D_v E rfl rfl rfl (fun w hC => (R_load E rfl (Tryz.isAgg116 _) (cell_blkf (hC.2.2 rfl) rfl))) ?_
  clear E a; intro a E
  refine D_v E rfl rfl rfl (fun w hC => (R_ifaceP E rfl Tryz.underlying116)) ?_
  clear E a; intro a E
  refine D_x rfl rfl rfl (X_pu E S rfl rfl rfl (U_ContainsAnyElement h0 h1 (by first | assumption | omega) (by first | assumption | omega)) (Hp.le.refl _) ?_)
  clear E a S; rintro a _ w M_3 hM_3 rfl S E
  replace h0 := h0.le hM_3
  replace h1 := h1.le hM_3
  replace shb0 := hM_3.2 _ _ shb0
  replace shm0 := shm0.le hM_3
  replace shb1 := hM_3.2 _ _ shb1
  replace shm1 := shm1.le hM_3
  refine ⟨fun x hq hb => ⟨(agree_le hM_3 S.imm), (fun e => by subst e; exact absurd hb (by decide)), (fun e => by subst e; exact absurd hb (by decide))⟩, ?_⟩
  refine D_v E rfl rfl rfl (fun w hC => (R_assign E rfl)) ?_
  clear E a; intro a E
  refine D_end (NoP_n ?_)
  refine T_n ?_
  refine WP_seq ?_
  refine WP_region ?_
  refine S_v E rfl (R_move E rfl) rfl ?_
  clear E a; intro a E
  refine S_v E rfl (R_nilCheck E rfl rfl) rfl ?_
  clear E a; intro a E
  refine S_v E rfl (R_fieldAddr E rfl (FA144_0 _)) rfl ?_
  clear E a; intro a E
  replace S := S.front1
  replace S : St w M_3 (LK p0 144 (0 + 1) v0 :: _) := S
  refine S_x (X_sp (p := [LK p0 144 (0 + 1) v0]) E S rfl rfl rfl (runlock_sp Tryz.rwRLib (T := 144) (n := 0) (by decide) (by decide)) (Hp.le.refl _) ?_)
  clear E a S; rintro a _ w M_4 _ hM_4 ⟨rfl, rfl⟩ S E
  replace S : St w M_4 (blk p0 (.cells #[.int .i32 0, .int .u32 0, .int .u32 0, .int .u32 0, .int .i32 0, .int .i32 0, v0] 144) :: blk p1 (.cells #[.int .i32 0, .int .u32 0, .int .u32 0, .int .u32 0, .int .i32 1, .int .i32 0, v1] 144) :: H) := S
  replace h0 := h0.le hM_4
  replace h1 := h1.le hM_4
  replace shb0 := hM_4.2 _ _ shb0
  replace shm0 := shm0.le hM_4
  replace shb1 := hM_4.2 _ _ shb1
  replace shm1 := shm1.le hM_4
  refine WL_nil ?_
  refine T_n ?_
  refine WP_seq ?_
  refine WP_region ?_
  refine S_v E rfl (R_move E rfl) rfl ?_
  clear E a; intro a E
  refine S_v E rfl (R_nilCheck E rfl rfl) rfl ?_
  clear E a; intro a E
  refine S_v E rfl (R_fieldAddr E rfl (FA144_0 _)) rfl ?_
  clear E a; intro a E
  replace S := S.front1
  replace S : St w M_4 (LK p1 144 (0 + 1) v1 :: _) := S
  refine S_x (X_sp (p := [LK p1 144 (0 + 1) v1]) E S rfl rfl rfl (runlock_sp Tryz.rwRLib (T := 144) (n := 0) (by decide) (by decide)) (Hp.le.refl _) ?_)
  clear E a S; rintro a _ w M_5 _ hM_5 ⟨rfl, rfl⟩ S E
  replace S : St w M_5 (blk p1 (.cells #[.int .i32 0, .int .u32 0, .int .u32 0, .int .u32 0, .int .i32 0, .int .i32 0, v1] 144) :: blk p0 (.cells #[.int .i32 0, .int .u32 0, .int .u32 0, .int .u32 0, .int .i32 0, .int .i32 0, v0] 144) :: H) := S
  replace h0 := h0.le hM_5
  replace h1 := h1.le hM_5
  replace shb0 := hM_5.2 _ _ shb0
  replace shm0 := shm0.le hM_5
  replace shb1 := hM_5.2 _ _ shb1
  replace shm1 := shm1.le hM_5
  refine WL_nil ?_
  refine T_n ?_
  refine WP_seq ?_
  refine WP_region ?_
  refine S_v E rfl (R_move E rfl) rfl ?_
  clear E a; intro a E
  refine S_v E rfl (R_assign E rfl) rfl ?_
  clear E a; intro a E
  refine WL_nil ?_
  refine T_n ?_
  refine WP_ret ?_
  replace S := S.front1
  exact F_ret1 E Tryz.results166 rfl ⟨_, rfl, M_5, _, (hM_1.trans (hM_2.trans (hM_3.trans (hM_4.trans hM_5)))), ⟨rfl, rfl⟩, S⟩

set_option maxRecDepth 100000 in
set_option maxHeartbeats 4000000 in
theorem S_SetRelations {M : Hp} {v1 v2 : Value} {l1 l2 : List Int} (h1 : RdI M v1 l1) (h2 : RdI M v2 l2)(hb1 : l1.length ≤ 100000000) (hb2 : l2.length ≤ 100000000)  :
    Pu Tryz.prog (.func (.func 20) #[] #[]) M [.bool true, v1, v2] (fun r M' => RdS 1 RB1 M' r (relL l1 l2)) := by
  refine Pu_enter Tryz.func20 rfl Tryz.ntmps20 rfl Tryz.call20 ?_
  intro a w M1 H hM1 S E
  replace h1 := h1.le hM1
  replace h2 := h2.le hM1
  have b1 := h1.bound
  have b2 := h2.bound
  refine WP_seq ?_
  refine WP_region ?_
  refine S_v E rfl (R_assign E rfl) rfl ?_
  clear E a; intro a E
  refine WL_nil ?_
  refine T_n ?_
  refine WP_seq ?_
  refine WP_region ?_
  refine S_v E rfl (R_move E rfl) rfl ?_
  clear E a; intro a E
  refine S_v E rfl (R_move E rfl) rfl ?_
  clear E a; intro a E
  refine S_v E rfl (R_move E rfl) rfl ?_
  clear E a; intro a E
  refine S_x (X_sp (p := []) E S rfl rfl rfl (S_twoSets h1 h2 (by first | assumption | omega) (by first | assumption | omega)) (Hp.le.refl _) ?_)
  clear E a S; rintro a _ w M_1 _ hM_1 ⟨p_3, v_4, p_5, v_6, rfl, rfl, hv_4, hv_6⟩ S E
  replace S : St w M_1 (blk p_3 (.cells #[.int .i32 0, .int .u32 0, .int .u32 0, .int .u32 0, .int .i32 0, .int .i32 0, v_4] 144) :: blk p_5 (.cells #[.int .i32 0, .int .u32 0, .int .u32 0, .int .u32 0, .int .i32 0, .int .i32 0, v_6] 144) :: H) := S
  replace h1 := h1.le hM_1
  replace h2 := h2.le hM_1
  refine S_v E rfl (R_move E rfl) rfl ?_
  clear E a; intro a E
  refine S_v E rfl (R_extract E rfl rfl) rfl ?_
  clear E a; intro a E
  refine S_v E rfl (R_extract E rfl rfl) rfl ?_
  clear E a; intro a E
  refine S_v E rfl (R_assign E rfl) rfl ?_
  clear E a; intro a E
  refine S_v E rfl (R_assign E rfl) rfl ?_
  clear E a; intro a E
  refine WL_nil ?_
  refine T_n ?_
  refine WP_seq ?_
  refine WP_region ?_
  refine S_v E rfl (R_move E rfl) rfl ?_
  clear E a; intro a E
  refine S_v E rfl (R_move E rfl) rfl ?_
  clear E a; intro a E
  replace S := S.front1
  replace S := S.front1
  refine S_x (X_spI (p := [blk p_3 (.cells #[.int .i32 0, .int .u32 0, .int .u32 0, .int .u32 0, .int .i32 0, .int .i32 0, v_4] 144), blk p_5 (.cells #[.int .i32 0, .int .u32 0, .int .u32 0, .int .u32 0, .int .i32 0, .int .i32 0, v_6] 144)]) E S rfl rfl rfl (meth_114_Equal _ _) Tryz.call170 (S_Equal hv_4 hv_6 (by first | assumption | omega) (by first | assumption | omega)) (Hp.le.refl _) ?_)
  clear E a S; rintro a _ w M_7 _ hM_7 ⟨rfl, rfl⟩ S E
  replace S : St w M_7 (blk p_3 (.cells #[.int .i32 0, .int .u32 0, .int .u32 0, .int .u32 0, .int .i32 0, .int .i32 0, v_4] 144) :: blk p_5 (.cells #[.int .i32 0, .int .u32 0, .int .u32 0, .int .u32 0, .int .i32 0, .int .i32 0, v_6] 144) :: H) := S
  replace h1 := h1.le hM_7
  replace h2 := h2.le hM_7
  replace hv_4 := hv_4.le hM_7
  replace hv_6 := hv_6.le hM_7
  refine S_v E rfl (R_move E rfl) rfl ?_
  clear E a; intro a E
  refine S_v E rfl (R_move E rfl) rfl ?_
  clear E a; intro a E
  replace S := S.front1
  replace S := S.front1
  refine S_x (X_spI (p := [blk p_3 (.cells #[.int .i32 0, .int .u32 0, .int .u32 0, .int .u32 0, .int .i32 0, .int .i32 0, v_4] 144), blk p_5 (.cells #[.int .i32 0, .int .u32 0, .int .u32 0, .int .u32 0, .int .i32 0, .int .i32 0, v_6] 144)]) E S rfl rfl rfl (meth_114_IsSubset _ _) Tryz.call175 (S_IsSubset hv_4 hv_6 (by first | assumption | omega) (by first | assumption | omega)) (Hp.le.refl _) ?_)
  clear E a S; rintro a _ w M_9 _ hM_9 ⟨rfl, rfl⟩ S E
  replace S : St w M_9 (blk p_3 (.cells #[.int .i32 0, .int .u32 0, .int .u32 0, .int .u32 0, .int .i32 0, .int .i32 0, v_4] 144) :: blk p_5 (.cells #[.int .i32 0, .int .u32 0, .int .u32 0, .int .u32 0, .int .i32 0, .int .i32 0, v_6] 144) :: H) := S
  replace h1 := h1.le hM_9
  replace h2 := h2.le hM_9
  replace hv_4 := hv_4.le hM_9
  replace hv_6 := hv_6.le hM_9
  refine S_v E rfl (R_move E rfl) rfl ?_
  clear E a; intro a E
  refine S_v E rfl (R_move E rfl) rfl ?_
  clear E a; intro a E
  replace S := S.front1
  replace S := S.front1
  refine S_x (X_spI (p := [blk p_3 (.cells #[.int .i32 0, .int .u32 0, .int .u32 0, .int .u32 0, .int .i32 0, .int .i32 0, v_4] 144), blk p_5 (.cells #[.int .i32 0, .int .u32 0, .int .u32 0, .int .u32 0, .int .i32 0, .int .i32 0, v_6] 144)]) E S rfl rfl rfl (meth_114_IsProperSubset _ _) Tryz.call173 (S_IsProperSubset hv_4 hv_6 (by first | assumption | omega) (by first | assumption | omega)) (Hp.le.refl _) ?_)
  clear E a S; rintro a _ w M_11 _ hM_11 ⟨rfl, rfl⟩ S E
  replace S : St w M_11 (blk p_3 (.cells #[.int .i32 0, .int .u32 0, .int .u32 0, .int .u32 0, .int .i32 0, .int .i32 0, v_4] 144) :: blk p_5 (.cells #[.int .i32 0, .int .u32 0, .int .u32 0, .int .u32 0, .int .i32 0, .int .i32 0, v_6] 144) :: H) := S
  replace h1 := h1.le hM_11
  replace h2 := h2.le hM_11
  replace hv_4 := hv_4.le hM_11
  replace hv_6 := hv_6.le hM_11
  refine S_v E rfl (R_move E rfl) rfl ?_
  clear E a; intro a E
  refine S_v E rfl (R_move E rfl) rfl ?_
  clear E a; intro a E
  replace S := S.front1
  replace S := S.front1
  refine S_x (X_spI (p := [blk p_3 (.cells #[.int .i32 0, .int .u32 0, .int .u32 0, .int .u32 0, .int .i32 0, .int .i32 0, v_4] 144), blk p_5 (.cells #[.int .i32 0, .int .u32 0, .int .u32 0, .int .u32 0, .int .i32 0, .int .i32 0, v_6] 144)]) E S rfl rfl rfl (meth_114_IsSuperset _ _) Tryz.call176 (S_IsSuperset hv_4 hv_6 (by first | assumption | omega) (by first | assumption | omega)) (Hp.le.refl _) ?_)
  clear E a S; rintro a _ w M_13 _ hM_13 ⟨rfl, rfl⟩ S E
  replace S : St w M_13 (blk p_3 (.cells #[.int .i32 0, .int .u32 0, .int .u32 0, .int .u32 0, .int .i32 0, .int .i32 0, v_4] 144) :: blk p_5 (.cells #[.int .i32 0, .int .u32 0, .int .u32 0, .int .u32 0, .int .i32 0, .int .i32 0, v_6] 144) :: H) := S
  replace h1 := h1.le hM_13
  replace h2 := h2.le hM_13
  replace hv_4 := hv_4.le hM_13
  replace hv_6 := hv_6.le hM_13
  refine S_v E rfl (R_move E rfl) rfl ?_
  clear E a; intro a E
  refine S_v E rfl (R_move E rfl) rfl ?_
  clear E a; intro a E
  replace S := S.front1
  replace S := S.front1
  refine S_x (X_spI (p := [blk p_3 (.cells #[.int .i32 0, .int .u32 0, .int .u32 0, .int .u32 0, .int .i32 0, .int .i32 0, v_4] 144), blk p_5 (.cells #[.int .i32 0, .int .u32 0, .int .u32 0, .int .u32 0, .int .i32 0, .int .i32 0, v_6] 144)]) E S rfl rfl rfl (meth_114_IsProperSuperset _ _) Tryz.call174 (S_IsProperSuperset hv_4 hv_6 (by first | assumption | omega) (by first | assumption | omega)) (Hp.le.refl _) ?_)
  clear E a S; rintro a _ w M_15 _ hM_15 ⟨rfl, rfl⟩ S E
  replace S : St w M_15 (blk p_3 (.cells #[.int .i32 0, .int .u32 0, .int .u32 0, .int .u32 0, .int .i32 0, .int .i32 0, v_4] 144) :: blk p_5 (.cells #[.int .i32 0, .int .u32 0, .int .u32 0, .int .u32 0, .int .i32 0, .int .i32 0, v_6] 144) :: H) := S
  replace h1 := h1.le hM_15
  replace h2 := h2.le hM_15
  replace hv_4 := hv_4.le hM_15
  replace hv_6 := hv_6.le hM_15
  refine S_v E rfl (R_move E rfl) rfl ?_
  clear E a; intro a E
  refine S_v E rfl (R_move E rfl) rfl ?_
  clear E a; intro a E
  replace S := S.front1
  replace S := S.front1
  refine S_x (X_spI (p := [blk p_3 (.cells #[.int .i32 0, .int .u32 0, .int .u32 0, .int .u32 0, .int .i32 0, .int .i32 0, v_4] 144), blk p_5 (.cells #[.int .i32 0, .int .u32 0, .int .u32 0, .int .u32 0, .int .i32 0, .int .i32 0, v_6] 144)]) E S rfl rfl rfl (meth_114_ContainsAnyElement _ _) Tryz.call166 (S_ContainsAnyElement hv_4 hv_6 (by first | assumption | omega) (by first | assumption | omega)) (Hp.le.refl _) ?_)
  clear E a S; rintro a _ w M_17 _ hM_17 ⟨rfl, rfl⟩ S E
  replace S : St w M_17 (blk p_3 (.cells #[.int .i32 0, .int .u32 0, .int .u32 0, .int .u32 0, .int .i32 0, .int .i32 0, v_4] 144) :: blk p_5 (.cells #[.int .i32 0, .int .u32 0, .int .u32 0, .int .u32 0, .int .i32 0, .int .i32 0, v_6] 144) :: H) := S
  replace h1 := h1.le hM_17
  replace h2 := h2.le hM_17
  replace hv_4 := hv_4.le hM_17
  replace hv_6 := hv_6.le hM_17
  refine S_x (X_buildM (R := RB1) (vs := [.bool (sub' l1 l2 && sub' l2 l1), .bool (sub' l1 l2), .bool ((decide (card l1 < card l2)) && sub' l1 l2), .bool (sub' l2 l1), .bool ((decide (card l2 < card l1)) && sub' l2 l1), .bool (any' l1 l2)]) (xs := [sub' l1 l2 && sub' l2 l1, sub' l1 l2, (decide (card l1 < card l2)) && sub' l1 l2, sub' l2 l1, (decide (card l2 < card l1)) && sub' l2 l1, any' l1 l2]) RB1_mono E S rfl T28 rfl rfl rfl (by intro u hu; simp only [List.mem_cons, List.not_mem_nil, or_false] at hu; rcases hu with rfl | rfl | rfl | rfl | rfl | rfl <;> first | exact rfl | exact rfl | exact rfl | exact rfl | exact rfl | exact rfl) rfl (rowsC (R := RB1) rfl (rowsC (R := RB1) rfl (rowsC (R := RB1) rfl (rowsC (R := RB1) rfl (rowsC (R := RB1) rfl (rowsC (R := RB1) rfl rowsN)))))) ?_)
  clear E a S; rintro a v_19 w M_20 hM_20 hv_19 S E
  replace h1 := h1.le hM_20
  replace h2 := h2.le hM_20
  replace hv_4 := hv_4.le hM_20
  replace hv_6 := hv_6.le hM_20
  refine S_v E rfl (R_assign E rfl) rfl ?_
  clear E a; intro a E
  refine WL_nil ?_
  refine T_n ?_
  refine WP_ret ?_
  exact F_ret1 E Tryz.results20 rfl ⟨_, rfl, M_20, (hM_1.trans (hM_7.trans (hM_9.trans (hM_11.trans (hM_13.trans (hM_15.trans (hM_17.trans hM_20))))))), (by rw [show (relL l1 l2) = [sub' l1 l2 && sub' l2 l1, sub' l1 l2, (decide (card l1 < card l2)) && sub' l1 l2, sub' l2 l1, (decide (card l2 < card l1)) && sub' l2 l1, any' l1 l2] from by rfl]; exact hv_19), S.drop.drop⟩

set_option maxRecDepth 100000 in
set_option maxHeartbeats 4000000 in
theorem impl_SetRelations {M : Hp} {x0 : Bool} {v1 v2 : Value} {l1 l2 : List Int} (h1 : RdI M v1 l1) (h2 : RdI M v2 l2)(hb1 : l1.length ≤ 100000000) (hb2 : l2.length ≤ 100000000) :
    Pu Tryz.prog (.func (.func 20) #[] #[]) M [.bool x0, v1, v2] (fun r M' => RdS 1 RB1 M' r (relL l1 l2)) := by
  cases x0
  · exact U_SetRelations h1 h2 hb1 hb2
  · exact S_SetRelations h1 h2 hb1 hb2

set_option maxRecDepth 100000 in
set_option maxHeartbeats 4000000 in
theorem laws_few {M : Hp} {v0 : Value} {l0 : List (List Int)} (h0 : RdII M v0 l0) :
    Pu Tryz.prog (.func (.func 11) #[] #[]) M [v0] (fun r M' => r = .bool (decide (∀ x ∈ l0, x.length ≤ 300))) := by
  refine Pu_enter Tryz.func11 rfl Tryz.ntmps11 rfl Tryz.call11 ?_
  intro a w M1 H hM1 S E
  replace h0 := h0.le hM1
  have b0 := h0.bound
  refine WP_seq ?_
  refine WP_region ?_
  refine S_v E rfl (R_assign E rfl) rfl ?_
  clear E a; intro a E
  refine WL_nil ?_
  refine T_n ?_
  refine WP_seq ?_
  refine WP_seq ?_
  refine WP_region ?_
  refine S_v E rfl (R_move E rfl) rfl ?_
  clear E a; intro a E
  refine S_v E rfl (R_lenV E rfl T36 h0.len) rfl ?_
  clear E a; intro a E
  refine S_v E rfl (R_move E rfl) rfl ?_
  clear E a; intro a E
  refine WL_nil ?_
  refine T_n ?_
  refine WP_block ?_
  refine WP_loop (γ := Nat) (fun (k : Nat) a w => ∃ (M_1 : Hp), Hp.le M1 M_1 ∧ St w M_1 (H) ∧ Env a 15 [] [(5, v0), (6, .int .i64 (((l0).length : Nat) : Int)), (7, .int .i64 ((k : Nat) : Int))] ∧ (k ≤ (l0).length) ∧ (∀ x ∈ l0.take k, x.length ≤ 300)) (fun k => ((l0).length) - k) 0 ⟨M1, Hp.le.refl _, S, E.keep ⟨rfl, rfl, rfl, trivial⟩, by ((try clear S); (try clear E); first | assumption | omega | rfl | (simp; done) | (simp_all; done) | (simp [List.take_add_one, *]; done) | grind [List.take_add_one]), by ((try clear S); (try clear E); first | assumption | omega | rfl | (simp; done) | (simp_all; done) | (simp [List.take_add_one, *]; done) | grind [List.take_add_one])⟩ ?_
  try clear E
  try clear S
  try clear a
  try clear w
  rintro k a w ⟨M_1, hM_1, S, E, hL0_0, hL0_1⟩
  replace h0 := h0.le hM_1
  refine WP_seq ?_
  refine WP_region ?_
  refine S_v E rfl (R_lss E rfl rfl) rfl ?_
  clear E a; intro a E
  refine WL_nil ?_
  refine T_n ?_
  refine WP_seq ?_
  refine WP_cond E rfl (fun hc_2 => ?_) (fun hc_2 => ?_)
  · replace hc_2 := of_decide_eq_true hc_2
    refine WP_skip ?_
    refine T_n ?_
    refine WP_seq ?_
    refine WP_block ?_
    refine WP_seq ?_
    refine WP_region ?_
    obtain ⟨x_3, hx_3⟩ : ∃ x, (l0)[k]? = some x := ⟨_, List.getElem?_eq_getElem (by first | omega | (simp; done) | (simp; omega) | (simp_all; omega))⟩
    obtain ⟨p_4, u_5, hp_4, qp_4, hu_5⟩ := h0.at hx_3
    have bu_5 := hu_5.bound
    refine S_v E rfl (R_idx E rfl rfl T36 hp_4 rfl) rfl ?_
    clear E a; intro a E
    refine S_v E rfl (R_loadM E rfl Tryz.isAgg22 S.imm qp_4) rfl ?_
    clear E a; intro a E
    refine S_v E rfl (R_assign E rfl) rfl ?_
    clear E a; intro a E
    refine WL_nil ?_
    refine T_n ?_
    refine WP_seq ?_
    refine WP_region ?_
    refine S_v E rfl (R_move E rfl) rfl ?_
    clear E a; intro a E
    refine S_v E rfl (R_lenV E rfl T22 hu_5.len) rfl ?_
    clear E a; intro a E
    refine S_v E rfl (R_gtr E rfl rfl) rfl ?_
    clear E a; intro a E
    refine WL_nil ?_
    refine T_n ?_
    refine WP_cond E rfl (fun hc_6 => ?_) (fun hc_6 => ?_)
    · replace hc_6 := of_decide_eq_true hc_6
      refine WP_seq ?_
      refine WP_region ?_
      refine S_v E rfl (R_assign E rfl) rfl ?_
      clear E a; intro a E
      refine WL_nil ?_
      refine T_n ?_
      refine WP_ret ?_
      refine B_r ?_
      refine T_r ?_
      refine T_r ?_
      refine B_r ?_
      refine T_r ?_
      exact F_ret1 E Tryz.results11 rfl ⟨_, rfl, M_1, hM_1, (bF (by ((try clear S); (try clear E); first | assumption | omega | rfl | (simp; done) | (simp_all; done) | (simp [List.take_add_one, *]; done) | grind [List.take_add_one]))), S⟩
    · replace hc_6 := of_decide_eq_false hc_6
      refine WP_skip ?_
      refine B_n ?_
      refine T_n ?_
      refine WP_region ?_
      refine S_v E rfl (R_addx (m := ((k + 1 : Nat) : Int)) E rfl rfl (by omega) (by omega)) rfl ?_
      clear E a; intro a E
      refine S_v E rfl (R_move E rfl) rfl ?_
      clear E a; intro a E
      refine WL_nil ?_
      refine T_n ?_
      exact ⟨k + 1, ⟨M_1, hM_1, S, E.keep ⟨rfl, rfl, rfl, trivial⟩, by ((try clear S); (try clear E); first | assumption | omega | rfl | (simp; done) | (simp_all; done) | (simp [List.take_add_one, *]; done) | grind [List.take_add_one]), by ((try clear S); (try clear E); first | assumption | omega | rfl | (simp; done) | (simp_all; done) | (simp [List.take_add_one, *]; done) | grind [List.take_add_one])⟩, by omega⟩
  · replace hc_2 := of_decide_eq_false hc_2
    refine WP_exit ?_
    refine T_x ?_
    refine T_x ?_
    refine B_x ?_
    refine T_n ?_
    refine WP_seq ?_
    refine WP_region ?_
    refine S_v E rfl (R_assign E rfl) rfl ?_
    clear E a; intro a E
    refine WL_nil ?_
    refine T_n ?_
    refine WP_ret ?_
    exact F_ret1 E Tryz.results11 rfl ⟨_, rfl, M_1, hM_1, (bT (by ((try clear S); (try clear E); first | assumption | omega | rfl | (simp; done) | (simp_all; done) | (simp [List.take_add_one, *]; done) | grind [List.take_add_one]))), S⟩

set_option maxRecDepth 100000 in
set_option maxHeartbeats 4000000 in
theorem laws_in {M : Hp} {v0 : Value} {l0 : List Int} (h0 : RdI M v0 l0){x1 : Int} :
    Pu Tryz.prog (.func (.func 21) #[] #[]) M [v0, .int .i64 x1] (fun r M' => r = .bool (decide (x1 ∈ l0))) := by
  refine Pu_enter Tryz.func21 rfl Tryz.ntmps21 rfl Tryz.call21 ?_
  intro a w M1 H hM1 S E
  replace h0 := h0.le hM1
  have b0 := h0.bound
  refine WP_seq ?_
  refine WP_region ?_
  refine S_v E rfl (R_assign E rfl) rfl ?_
  clear E a; intro a E
  refine WL_nil ?_
  refine T_n ?_
  refine WP_seq ?_
  refine WP_seq ?_
  refine WP_region ?_
  refine S_v E rfl (R_move E rfl) rfl ?_
  clear E a; intro a E
  refine S_v E rfl (R_lenV E rfl T22 h0.len) rfl ?_
  clear E a; intro a E
  refine S_v E rfl (R_move E rfl) rfl ?_
  clear E a; intro a E
  refine WL_nil ?_
  refine T_n ?_
  refine WP_block ?_
  refine WP_loop (γ := Nat) (fun (k : Nat) a w => ∃ (M_1 : Hp), Hp.le M1 M_1 ∧ St w M_1 (H) ∧ Env a 17 [] [(1, .int .i64 x1), (7, v0), (8, .int .i64 (((l0).length : Nat) : Int)), (9, .int .i64 ((k : Nat) : Int))] ∧ (k ≤ (l0).length) ∧ (x1 ∉ l0.take k)) (fun k => ((l0).length) - k) 0 ⟨M1, Hp.le.refl _, S, E.keep ⟨rfl, rfl, rfl, rfl, trivial⟩, by ((try clear S); (try clear E); first | assumption | omega | rfl | (simp; done) | (simp_all; done) | (simp [List.take_add_one, *]; done) | grind [List.take_add_one]), by ((try clear S); (try clear E); first | assumption | omega | rfl | (simp; done) | (simp_all; done) | (simp [List.take_add_one, *]; done) | grind [List.take_add_one])⟩ ?_
  try clear E
  try clear S
  try clear a
  try clear w
  rintro k a w ⟨M_1, hM_1, S, E, hL0_0, hL0_1⟩
  replace h0 := h0.le hM_1
  refine WP_seq ?_
  refine WP_region ?_
  refine S_v E rfl (R_lss E rfl rfl) rfl ?_
  clear E a; intro a E
  refine WL_nil ?_
  refine T_n ?_
  refine WP_seq ?_
  refine WP_cond E rfl (fun hc_2 => ?_) (fun hc_2 => ?_)
  · replace hc_2 := of_decide_eq_true hc_2
    refine WP_skip ?_
    refine T_n ?_
    refine WP_seq ?_
    refine WP_block ?_
    refine WP_seq ?_
    refine WP_region ?_
    obtain ⟨x_3, hx_3⟩ : ∃ x, (l0)[k]? = some x := ⟨_, List.getElem?_eq_getElem (by first | omega | (simp; done) | (simp; omega) | (simp_all; omega))⟩
    obtain ⟨p_4, hp_4, qp_4⟩ := h0.at hx_3
    refine S_v E rfl (R_idx E rfl rfl T22 hp_4 rfl) rfl ?_
    clear E a; intro a E
    refine S_v E rfl (R_loadM E rfl Tryz.isAgg3 S.imm qp_4) rfl ?_
    clear E a; intro a E
    refine S_v E rfl (R_assign E rfl) rfl ?_
    clear E a; intro a E
    refine WL_nil ?_
    refine T_n ?_
    refine WP_seq ?_
    refine WP_region ?_
    refine S_v E rfl (R_move E rfl) rfl ?_
    clear E a; intro a E
    refine S_v E rfl (R_move E rfl) rfl ?_
    clear E a; intro a E
    refine S_v E rfl (R_eql E rfl rfl) rfl ?_
    clear E a; intro a E
    refine WL_nil ?_
    refine T_n ?_
    refine WP_cond E rfl (fun hc_5 => ?_) (fun hc_5 => ?_)
    · replace hc_5 := of_decide_eq_true hc_5
      refine WP_seq ?_
      refine WP_region ?_
      refine S_v E rfl (R_assign E rfl) rfl ?_
      clear E a; intro a E
      refine WL_nil ?_
      refine T_n ?_
      refine WP_ret ?_
      refine B_r ?_
      refine T_r ?_
      refine T_r ?_
      refine B_r ?_
      refine T_r ?_
      exact F_ret1 E Tryz.results21 rfl ⟨_, rfl, M_1, hM_1, (bT (by (refine List.mem_of_getElem? (i := k) ?_; simp_all))), S⟩
    · replace hc_5 := of_decide_eq_false hc_5
      refine WP_skip ?_
      refine B_n ?_
      refine T_n ?_
      refine WP_region ?_
      refine S_v E rfl (R_addx (m := ((k + 1 : Nat) : Int)) E rfl rfl (by omega) (by omega)) rfl ?_
      clear E a; intro a E
      refine S_v E rfl (R_move E rfl) rfl ?_
      clear E a; intro a E
      refine WL_nil ?_
      refine T_n ?_
      exact ⟨k + 1, ⟨M_1, hM_1, S, E.keep ⟨rfl, rfl, rfl, rfl, trivial⟩, by ((try clear S); (try clear E); first | assumption | omega | rfl | (simp; done) | (simp_all; done) | (simp [List.take_add_one, *]; done) | grind [List.take_add_one]), by ((try clear S); (try clear E); first | assumption | omega | rfl | (simp; done) | (simp_all; done) | (simp [List.take_add_one, *]; done) | grind [List.take_add_one])⟩, by omega⟩
  · replace hc_2 := of_decide_eq_false hc_2
    refine WP_exit ?_
    refine T_x ?_
    refine T_x ?_
    refine B_x ?_
    refine T_n ?_
    refine WP_seq ?_
    refine WP_region ?_
    refine S_v E rfl (R_assign E rfl) rfl ?_
    clear E a; intro a E
    refine WL_nil ?_
    refine T_n ?_
    refine WP_ret ?_
    exact F_ret1 E Tryz.results21 rfl ⟨_, rfl, M_1, hM_1, (bF (by (rw [List.take_of_length_le (by omega)] at hL0_1; exact hL0_1))), S⟩

set_option maxRecDepth 100000 in
set_option maxHeartbeats 4000000 in
theorem U_add {M : Hp} {b9 m9 : Nat} {l9 : List Int} {x0 : Int} :
    Sp Tryz.prog (.func (.func 206) #[] #[]) M [.pointer (some ⟨b9, 0, none⟩), .int .i64 x0] [blk b9 (.cells #[.map (some m9)] 145), OwnS m9 l9] (fun r M' C' => r = .tuple #[] ∧ C' = [blk b9 (.cells #[.map (some m9)] 145), OwnS m9 (addS l9 x0)]) := by
  refine Sp_enter Tryz.func206 rfl Tryz.ntmps206 rfl Tryz.call206 ?_
  intro a w M1 H hM1 S E
  replace S : St w M1 (blk b9 (.cells #[.map (some m9)] 145) :: OwnS m9 l9 :: _) := S
  refine WP_region ?_
  refine S_v E rfl (R_move E rfl) rfl ?_
  clear E a; intro a E
  refine S_v E rfl (R_nilCheck E rfl rfl) rfl ?_
  clear E a; intro a E
  refine S_v E rfl (R_load E rfl (Tryz.isAgg145 _) (cell_blk (S.mem (.head _)))) rfl ?_
  clear E a; intro a E
  refine S_v E rfl (R_move E rfl) rfl ?_
  clear E a; intro a E
  refine S_v E rfl (R_build (u := .agg #[]) (vs := []) E rfl (fun w => FB104__  w)) rfl ?_
  clear E a; intro a E
  replace S := S.front1
  refine S_x0 (X_updateS E S MT145 rfl rfl rfl ?_)
  clear E a S; rintro a w E S
  refine WL_nil ?_
  refine F_nrm ?_
  replace S := S.front1
  exact F_ret0 E Tryz.results206 ⟨_, rfl, M1, _, (Hp.le.refl _), ⟨rfl, rfl⟩, S⟩

set_option maxRecDepth 100000 in
set_option maxHeartbeats 4000000 in
theorem U_Intersect {M : Hp} {v0 : Value} {c0 : List Int} (h0 : RdSU 145 M v0 c0) {v1 : Value} {c1 : List Int} (h1 : RdSU 145 M v1 c1) (b0 : c0.length ≤ 1000000000) (b1 : c1.length ≤ 1000000000)  :
    Pu Tryz.prog (.func (.func 195) #[] #[]) M [v0, .iface 116 v1] (fun r M' => (∃ p, r = .iface 116 p ∧ RdSU 145 M' p ((c0).filter (fun z => decide (z ∈ c1))))) := by
  refine Pu_enter Tryz.func195 rfl Tryz.ntmps195 rfl Tryz.call195 ?_
  intro a w M1 H hM1 S E
  replace h0 := h0.le hM1
  replace h1 := h1.le hM1
  have hcl0 := card_le c0
  have hcl1 := card_le c1
  refine WP_seq ?_
  refine WP_region ?_
  refine S_v E rfl (R_assign E rfl) rfl ?_
  clear E a; intro a E
  refine WL_nil ?_
  refine T_n ?_
  refine WP_seq ?_
  refine WP_region ?_
  refine S_v E rfl (R_move E rfl) rfl ?_
  clear E a; intro a E
  refine S_v E rfl (R_assert E rfl Tryz.underlying116 (by intro z hz; cases hz)) rfl ?_
  clear E a; intro a E
  refine S_v E rfl (R_assign E rfl) rfl ?_
  clear E a; intro a E
  refine WL_nil ?_
  refine T_n ?_
  refine WP_seq ?_
  refine WP_region ?_
  refine S_x (X_alloc (cs := #[.map none]) E S rfl Tryz.zeroValue145 rfl ?_)
  clear E a S; rintro a w b_1 E S
  refine WL_nil ?_
  refine T_n ?_
  refine WP_seq ?_
  refine WP_seq ?_
  refine WP_region ?_
  refine S_v E rfl (R_move E rfl) rfl ?_
  clear E a; intro a E
  refine S_x (X_pu E S rfl rfl rfl (U_Cardinality h0 (by first | assumption | omega)) (Hp.le.refl _) ?_)
  clear E a S; rintro a _ w M_2 hM_2 rfl S E
  replace h0 := h0.le hM_2
  replace h1 := h1.le hM_2
  refine S_v E rfl (R_move E rfl) rfl ?_
  clear E a; intro a E
  refine S_x (X_puI E S rfl rfl rfl (meth_116_Cardinality _ _) Tryz.call205 (U_Cardinality h1 (by first | assumption | omega)) (Hp.le.refl _) ?_)
  clear E a S; rintro a _ w M_3 hM_3 rfl S E
  replace h0 := h0.le hM_3
  replace h1 := h1.le hM_3
  refine S_v E rfl (R_lss E rfl rfl) rfl ?_
  clear E a; intro a E
  refine WL_nil ?_
  refine T_n ?_
  refine WP_cond E rfl (fun hc_4 => ?_) (fun hc_4 => ?_)
  · replace hc_4 := of_decide_eq_true hc_4
    refine WP_seq ?_
    refine WP_region ?_
    refine S_v E rfl (R_move E rfl) rfl ?_
    clear E a; intro a E
    refine S_x (X_pu E S rfl rfl rfl (U_Cardinality h0 (by first | assumption | omega)) (Hp.le.refl _) ?_)
    clear E a S; rintro a _ w M_5 hM_5 rfl S E
    replace h0 := h0.le hM_5
    replace h1 := h1.le hM_5
    refine S_x (X_makeMapR E S rfl MT145 rfl ?_)
    clear E a S; rintro a w b_6 E S
    replace S : St w M_5 (OwnS b_6 ([] : List Int) :: _) := S
    replace S := S.front1
    refine S_x0 (X_store E S rfl rfl (Tryz.sizeOf145 _) rfl ?_)
    clear E a S; rintro a w E S
    refine WL_nil ?_
    refine T_n ?_
    refine WP_seq ?_
    refine WP_region ?_
    refine S_v E rfl (R_move E rfl) rfl ?_
    clear E a; intro a E
    have hset := h0
    obtain ⟨sb0, sm0, sq0, se0, shb0, shm0, shn0, shq0⟩ := hset
    have shq0l : sq0.length ≤ c0.length := nodup_len shn0 fun z hz => (shq0 z).1 hz
    refine S_v E rfl (R_nilCheck E rfl se0) rfl ?_
    clear E a; intro a E
    refine S_v E rfl (R_loadM E (congrArg some se0) Tryz.isAgg145 S.imm (cellM_box shb0)) rfl ?_
    clear E a; intro a E
    refine S_x (X_range E S rfl MT145 shm0 rfl ?_)
    clear E a S; rintro a w i_7 es_8 ck_9 E hf_10 S
    replace S : St w M_5 (ItO sm0 es_8 ck_9 i_7 (Sl.encS ([] : List Int)) :: _) := S
    refine WL_nil ?_
    refine T_n ?_
    refine WP_block ?_
    replace S := S.front2
    replace S := S.front1
    replace S := S.front1
    replace S := S.reM (L' := (Sl.encS (addsL [] (([]).filter (fun z => decide (z ∈ c1)))))) (congrArg Sl.encS (show ([] : List Int) = (addsL [] (([]).filter (fun z => decide (z ∈ c1)))) by (first | rfl | (simp [addsL_snoc]; done) | (simp [addsL_snoc, List.filter_append, *]; done))))
    replace S := S.front1
    replace S := S.reIt (p' := (Sl.encS [])) (congrArg Sl.encS (show ([] : List Int) = [] by (first | rfl | (simp [addsL_snoc]; done) | (simp [addsL_snoc, List.filter_append, *]; done))))
    refine WP_loop (γ := List Int) (fun (p : List Int) a w => ∃ (M_11 : Hp), Hp.le M_5 M_11 ∧ St w M_11 (ItO sm0 es_8 ck_9 i_7 (Sl.encS p) :: OwnS b_6 (addsL [] ((p).filter (fun z => decide (z ∈ c1)))) :: blk b_1 (.cells #[.map (some b_6)] 145) :: H) ∧ Env a 49 [] [(5, v1), (6, .pointer (some ⟨b_1, 0, none⟩)), (22, .pointer (some ⟨i_7, 0, none⟩))] ∧ (p.Nodup) ∧ (∀ z ∈ p, z ∈ sq0) ∧ (p.length ≤ sq0.length)) (fun p => sq0.length - p.length) [] ⟨M_5, Hp.le.refl _, S, E.keep ⟨rfl, rfl, rfl, trivial⟩, (by simp), (by simp), (by simp)⟩ ?_
    try clear E
    try clear S
    try clear a
    try clear w
    rintro p a w ⟨M_11, hM_11, S, E, hL0_0, hL0_1, hL0_2⟩
    replace h0 := h0.le hM_11
    replace h1 := h1.le hM_11
    replace shb0 := hM_11.2 _ _ shb0
    replace shm0 := shm0.le hM_11
    replace hf_10 := hf_10.le hM_11
    refine WP_seq ?_
    refine WP_region ?_
    refine S_x (X_nextS E S rfl hf_10 rfl (by assumption) (by assumption) ?_ ?_)
    · clear E a S; rintro a E hpm_12 S
      refine S_v E rfl (R_extract E rfl rfl) rfl ?_
      clear E a; intro a E
      refine WL_nil ?_
      refine T_n ?_
      refine WP_seq ?_
      refine WP_condF E rfl rfl ?_
      refine WP_exit ?_
      refine T_x ?_
      refine T_x ?_
      refine B_x ?_
      refine T_n ?_
      refine WP_seq ?_
      refine WP_region ?_
      replace S := S.front1
      have S0 := S; clear S
      obtain ⟨M_13, hM_13, hm_14, S⟩ := S0.freezeM
      clear S0
      replace h0 := h0.le hM_13
      replace h1 := h1.le hM_13
      replace shb0 := hM_13.2 _ _ shb0
      replace shm0 := shm0.le hM_13
      replace hf_10 := hf_10.le hM_13
      replace S := S.front1
      have S0 := S; clear S
      obtain ⟨M_15, hM_15, hb_16, S⟩ := S0.freezeB
      clear S0
      replace h0 := h0.le hM_15
      replace h1 := h1.le hM_15
      replace shb0 := hM_15.2 _ _ shb0
      replace shm0 := shm0.le hM_15
      replace hf_10 := hf_10.le hM_15
      replace hm_14 := hm_14.le hM_15
      refine S_v E rfl (R_ifaceP E rfl Tryz.underlying116) rfl ?_
      clear E a; intro a E
      refine S_v E rfl (R_assign E rfl) rfl ?_
      clear E a; intro a E
      refine WL_nil ?_
      refine T_n ?_
      refine WP_ret ?_
      exact F_ret1 E Tryz.results195 rfl ⟨_, rfl, M_15, (hM_2.trans (hM_3.trans (hM_5.trans (hM_11.trans (hM_13.trans hM_15))))), ⟨_, rfl, ⟨_, _, (addsL [] ((p).filter (fun z => decide (z ∈ c1)))), rfl, hb_16, hm_14, (by first | assumption | exact addsL_nodup _ _ List.nodup_nil | exact addsL_nodup _ _ (addsL_nodup _ _ List.nodup_nil)), (by (first | (intro x; have ep := (List.Perm.mem_iff (a := x) (show p.Perm sq0 by first | assumption | (exact List.Perm.symm (by assumption)))).trans (shq0 x); simp only [mem_addsL, List.not_mem_nil, false_or, List.mem_append, List.mem_filter, decide_eq_true_eq, List.nil_append]; simp only [ep]) | (intro x; have ep := (List.Perm.mem_iff (a := x) (show p.Perm sq1 by first | assumption | (exact List.Perm.symm (by assumption)))).trans (shq1 x); simp only [mem_addsL, List.not_mem_nil, false_or, List.mem_filter, decide_eq_true_eq]; rw [ep]; exact And.comm)))⟩⟩, S.drop⟩
    · clear E a S w; rintro a w k_17 E hk_18 hk_18n hk_18l S
      refine S_v E rfl (R_extract E rfl rfl) rfl ?_
      clear E a; intro a E
      refine WL_nil ?_
      refine T_n ?_
      refine WP_seq ?_
      refine WP_condT E rfl rfl ?_
      refine WP_skip ?_
      refine T_n ?_
      refine WP_block ?_
      refine WP_seq ?_
      refine WP_region ?_
      refine S_v E rfl (R_entry (k := k_17) (v := .agg #[]) E (by have S1 := S; simp only [Sl.encS, List.map_append, List.map_cons, List.map_nil] at S1; exact S1) hf_10 rfl) rfl ?_
      clear E a; intro a E
      refine S_v E rfl (R_extract E rfl rfl) rfl ?_
      clear E a; intro a E
      refine S_v E rfl (R_assign E rfl) rfl ?_
      clear E a; intro a E
      refine WL_nil ?_
      refine T_n ?_
      refine WP_seq ?_
      refine WP_region ?_
      refine S_v E rfl (R_move E rfl) rfl ?_
      clear E a; intro a E
      refine S_v E rfl (R_move E rfl) rfl ?_
      clear E a; intro a E
      refine S_x (X_pu E S rfl rfl rfl (U_contains h1 (by first | assumption | omega)) (Hp.le.refl _) ?_)
      clear E a S; rintro a _ w M_19 hM_19 rfl S E
      replace h0 := h0.le hM_19
      replace h1 := h1.le hM_19
      replace shb0 := hM_19.2 _ _ shb0
      replace shm0 := shm0.le hM_19
      replace hf_10 := hf_10.le hM_19
      refine WL_nil ?_
      refine T_n ?_
      refine WP_cond E rfl (fun hc_20 => ?_) (fun hc_20 => ?_)
      · replace hc_20 := of_decide_eq_true hc_20
        refine WP_region ?_
        refine S_v E rfl (R_move E rfl) rfl ?_
        clear E a; intro a E
        replace S := S.front1
        replace S := S.front2
        refine S_x (X_sp (p := [blk b_1 (.cells #[.map (some b_6)] 145), OwnS b_6 (addsL [] ((p).filter (fun z => decide (z ∈ c1))))]) E S rfl rfl rfl (U_add) (Hp.le.refl _) ?_)
        clear E a S; rintro a _ w M_21 _ hM_21 ⟨rfl, rfl⟩ S E
        replace S : St w M_21 (blk b_1 (.cells #[.map (some b_6)] 145) :: OwnS b_6 (addS (addsL [] ((p).filter (fun z => decide (z ∈ c1)))) k_17) :: ItO sm0 es_8 ck_9 i_7 (Sl.encS (p ++ [k_17])) :: H) := S
        replace h0 := h0.le hM_21
        replace h1 := h1.le hM_21
        replace shb0 := hM_21.2 _ _ shb0
        replace shm0 := shm0.le hM_21
        replace hf_10 := hf_10.le hM_21
        refine WL_nil ?_
        refine B_n ?_
        refine T_n ?_
        replace S := S.front1
        replace S := S.front2
        replace S := S.front1
        replace S := S.reM (L' := (Sl.encS (addsL [] (((p ++ [k_17])).filter (fun z => decide (z ∈ c1)))))) (congrArg Sl.encS (show addS (addsL [] ((p).filter (fun z => decide (z ∈ c1)))) k_17 = (addsL [] (((p ++ [k_17])).filter (fun z => decide (z ∈ c1)))) by (first | rfl | (simp [addsL_snoc]; done) | (simp [addsL_snoc, List.filter_append, *]; done))))
        replace S := S.front1
        replace S := S.reIt (p' := (Sl.encS (p ++ [k_17]))) (congrArg Sl.encS (show p ++ [k_17] = (p ++ [k_17]) by (first | rfl | (simp [addsL_snoc]; done) | (simp [addsL_snoc, List.filter_append, *]; done))))
        exact ⟨(p ++ [k_17]), ⟨M_21, (hM_11.trans (hM_19.trans hM_21)), S, E.keep ⟨rfl, rfl, rfl, trivial⟩, (by exact snocN (by assumption) (by assumption)), (by exact snocS (by assumption) (by assumption)), (by simp; omega)⟩, (by simp; omega)⟩
      · replace hc_20 := of_decide_eq_false hc_20
        refine WP_skip ?_
        refine B_n ?_
        refine T_n ?_
        replace S := S.front1
        replace S := S.reM (L' := (Sl.encS (addsL [] (((p ++ [k_17])).filter (fun z => decide (z ∈ c1)))))) (congrArg Sl.encS (show (addsL [] ((p).filter (fun z => decide (z ∈ c1)))) = (addsL [] (((p ++ [k_17])).filter (fun z => decide (z ∈ c1)))) by (first | rfl | (simp [addsL_snoc]; done) | (simp [addsL_snoc, List.filter_append, *]; done))))
        replace S := S.front1
        replace S := S.reIt (p' := (Sl.encS (p ++ [k_17]))) (congrArg Sl.encS (show p ++ [k_17] = (p ++ [k_17]) by (first | rfl | (simp [addsL_snoc]; done) | (simp [addsL_snoc, List.filter_append, *]; done))))
        exact ⟨(p ++ [k_17]), ⟨M_19, (hM_11.trans hM_19), S, E.keep ⟨rfl, rfl, rfl, trivial⟩, (by exact snocN (by assumption) (by assumption)), (by exact snocS (by assumption) (by assumption)), (by simp; omega)⟩, (by simp; omega)⟩
  · replace hc_4 := of_decide_eq_false hc_4
    refine WP_seq ?_
    refine WP_region ?_
    refine S_v E rfl (R_move E rfl) rfl ?_
    clear E a; intro a E
    refine S_x (X_pu E S rfl rfl rfl (U_Cardinality h1 (by first | assumption | omega)) (Hp.le.refl _) ?_)
    clear E a S; rintro a _ w M_22 hM_22 rfl S E
    replace h0 := h0.le hM_22
    replace h1 := h1.le hM_22
    refine S_x (X_makeMapR E S rfl MT145 rfl ?_)
    clear E a S; rintro a w b_23 E S
    replace S : St w M_22 (OwnS b_23 ([] : List Int) :: _) := S
    replace S := S.front1
    refine S_x0 (X_store E S rfl rfl (Tryz.sizeOf145 _) rfl ?_)
    clear E a S; rintro a w E S
    refine WL_nil ?_
    refine T_n ?_
    refine WP_seq ?_
    refine WP_region ?_
    refine S_v E rfl (R_move E rfl) rfl ?_
    clear E a; intro a E
    have hset := h1
    obtain ⟨sb1, sm1, sq1, se1, shb1, shm1, shn1, shq1⟩ := hset
    have shq1l : sq1.length ≤ c1.length := nodup_len shn1 fun z hz => (shq1 z).1 hz
    refine S_v E rfl (R_nilCheck E rfl se1) rfl ?_
    clear E a; intro a E
    refine S_v E rfl (R_loadM E (congrArg some se1) Tryz.isAgg145 S.imm (cellM_box shb1)) rfl ?_
    clear E a; intro a E
    refine S_x (X_range E S rfl MT145 shm1 rfl ?_)
    clear E a S; rintro a w i_24 es_25 ck_26 E hf_27 S
    replace S : St w M_22 (ItO sm1 es_25 ck_26 i_24 (Sl.encS ([] : List Int)) :: _) := S
    refine WL_nil ?_
    refine T_n ?_
    refine WP_block ?_
    replace S := S.front2
    replace S := S.front1
    replace S := S.front1
    replace S := S.reM (L' := (Sl.encS (addsL [] (([]).filter (fun z => decide (z ∈ c0)))))) (congrArg Sl.encS (show ([] : List Int) = (addsL [] (([]).filter (fun z => decide (z ∈ c0)))) by (first | rfl | (simp [addsL_snoc]; done) | (simp [addsL_snoc, List.filter_append, *]; done))))
    replace S := S.front1
    replace S := S.reIt (p' := (Sl.encS [])) (congrArg Sl.encS (show ([] : List Int) = [] by (first | rfl | (simp [addsL_snoc]; done) | (simp [addsL_snoc, List.filter_append, *]; done))))
    refine WP_loop (γ := List Int) (fun (p : List Int) a w => ∃ (M_28 : Hp), Hp.le M_22 M_28 ∧ St w M_28 (ItO sm1 es_25 ck_26 i_24 (Sl.encS p) :: OwnS b_23 (addsL [] ((p).filter (fun z => decide (z ∈ c0)))) :: blk b_1 (.cells #[.map (some b_23)] 145) :: H) ∧ Env a 49 [] [(0, v0), (6, .pointer (some ⟨b_1, 0, none⟩)), (38, .pointer (some ⟨i_24, 0, none⟩))] ∧ (p.Nodup) ∧ (∀ z ∈ p, z ∈ sq1) ∧ (p.length ≤ sq1.length)) (fun p => sq1.length - p.length) [] ⟨M_22, Hp.le.refl _, S, E.keep ⟨rfl, rfl, rfl, trivial⟩, (by simp), (by simp), (by simp)⟩ ?_
    try clear E
    try clear S
    try clear a
    try clear w
    rintro p a w ⟨M_28, hM_28, S, E, hL1_0, hL1_1, hL1_2⟩
    replace h0 := h0.le hM_28
    replace h1 := h1.le hM_28
    replace shb1 := hM_28.2 _ _ shb1
    replace shm1 := shm1.le hM_28
    replace hf_27 := hf_27.le hM_28
    refine WP_seq ?_
    refine WP_region ?_
    refine S_x (X_nextS E S rfl hf_27 rfl (by assumption) (by assumption) ?_ ?_)
    · clear E a S; rintro a E hpm_29 S
      refine S_v E rfl (R_extract E rfl rfl) rfl ?_
      clear E a; intro a E
      refine WL_nil ?_
      refine T_n ?_
      refine WP_seq ?_
      refine WP_condF E rfl rfl ?_
      refine WP_exit ?_
      refine T_x ?_
      refine T_x ?_
      refine B_x ?_
      refine T_n ?_
      refine WP_seq ?_
      refine WP_region ?_
      replace S := S.front1
      have S0 := S; clear S
      obtain ⟨M_30, hM_30, hm_31, S⟩ := S0.freezeM
      clear S0
      replace h0 := h0.le hM_30
      replace h1 := h1.le hM_30
      replace shb1 := hM_30.2 _ _ shb1
      replace shm1 := shm1.le hM_30
      replace hf_27 := hf_27.le hM_30
      replace S := S.front1
      have S0 := S; clear S
      obtain ⟨M_32, hM_32, hb_33, S⟩ := S0.freezeB
      clear S0
      replace h0 := h0.le hM_32
      replace h1 := h1.le hM_32
      replace shb1 := hM_32.2 _ _ shb1
      replace shm1 := shm1.le hM_32
      replace hf_27 := hf_27.le hM_32
      replace hm_31 := hm_31.le hM_32
      refine S_v E rfl (R_ifaceP E rfl Tryz.underlying116) rfl ?_
      clear E a; intro a E
      refine S_v E rfl (R_assign E rfl) rfl ?_
      clear E a; intro a E
      refine WL_nil ?_
      refine T_n ?_
      refine WP_ret ?_
      exact F_ret1 E Tryz.results195 rfl ⟨_, rfl, M_32, (hM_2.trans (hM_3.trans (hM_22.trans (hM_28.trans (hM_30.trans hM_32))))), ⟨_, rfl, ⟨_, _, (addsL [] ((p).filter (fun z => decide (z ∈ c0)))), rfl, hb_33, hm_31, (by first | assumption | exact addsL_nodup _ _ List.nodup_nil | exact addsL_nodup _ _ (addsL_nodup _ _ List.nodup_nil)), (by (first | (intro x; have ep := (List.Perm.mem_iff (a := x) (show p.Perm sq0 by first | assumption | (exact List.Perm.symm (by assumption)))).trans (shq0 x); simp only [mem_addsL, List.not_mem_nil, false_or, List.mem_append, List.mem_filter, decide_eq_true_eq, List.nil_append]; simp only [ep]) | (intro x; have ep := (List.Perm.mem_iff (a := x) (show p.Perm sq1 by first | assumption | (exact List.Perm.symm (by assumption)))).trans (shq1 x); simp only [mem_addsL, List.not_mem_nil, false_or, List.mem_filter, decide_eq_true_eq]; rw [ep]; exact And.comm)))⟩⟩, S.drop⟩
    · clear E a S w; rintro a w k_34 E hk_35 hk_35n hk_35l S
      refine S_v E rfl (R_extract E rfl rfl) rfl ?_
      clear E a; intro a E
      refine WL_nil ?_
      refine T_n ?_
      refine WP_seq ?_
      refine WP_condT E rfl rfl ?_
      refine WP_skip ?_
      refine T_n ?_
      refine WP_block ?_
      refine WP_seq ?_
      refine WP_region ?_
      refine S_v E rfl (R_entry (k := k_34) (v := .agg #[]) E (by have S1 := S; simp only [Sl.encS, List.map_append, List.map_cons, List.map_nil] at S1; exact S1) hf_27 rfl) rfl ?_
      clear E a; intro a E
      refine S_v E rfl (R_extract E rfl rfl) rfl ?_
      clear E a; intro a E
      refine S_v E rfl (R_assign E rfl) rfl ?_
      clear E a; intro a E
      refine WL_nil ?_
      refine T_n ?_
      refine WP_seq ?_
      refine WP_region ?_
      refine S_v E rfl (R_move E rfl) rfl ?_
      clear E a; intro a E
      refine S_v E rfl (R_move E rfl) rfl ?_
      clear E a; intro a E
      refine S_x (X_pu E S rfl rfl rfl (U_contains h0 (by first | assumption | omega)) (Hp.le.refl _) ?_)
      clear E a S; rintro a _ w M_36 hM_36 rfl S E
      replace h0 := h0.le hM_36
      replace h1 := h1.le hM_36
      replace shb1 := hM_36.2 _ _ shb1
      replace shm1 := shm1.le hM_36
      replace hf_27 := hf_27.le hM_36
      refine WL_nil ?_
      refine T_n ?_
      refine WP_cond E rfl (fun hc_37 => ?_) (fun hc_37 => ?_)
      · replace hc_37 := of_decide_eq_true hc_37
        refine WP_region ?_
        refine S_v E rfl (R_move E rfl) rfl ?_
        clear E a; intro a E
        replace S := S.front1
        replace S := S.front2
        refine S_x (X_sp (p := [blk b_1 (.cells #[.map (some b_23)] 145), OwnS b_23 (addsL [] ((p).filter (fun z => decide (z ∈ c0))))]) E S rfl rfl rfl (U_add) (Hp.le.refl _) ?_)
        clear E a S; rintro a _ w M_38 _ hM_38 ⟨rfl, rfl⟩ S E
        replace S : St w M_38 (blk b_1 (.cells #[.map (some b_23)] 145) :: OwnS b_23 (addS (addsL [] ((p).filter (fun z => decide (z ∈ c0)))) k_34) :: ItO sm1 es_25 ck_26 i_24 (Sl.encS (p ++ [k_34])) :: H) := S
        replace h0 := h0.le hM_38
        replace h1 := h1.le hM_38
        replace shb1 := hM_38.2 _ _ shb1
        replace shm1 := shm1.le hM_38
        replace hf_27 := hf_27.le hM_38
        refine WL_nil ?_
        refine B_n ?_
        refine T_n ?_
        replace S := S.front1
        replace S := S.front2
        replace S := S.front1
        replace S := S.reM (L' := (Sl.encS (addsL [] (((p ++ [k_34])).filter (fun z => decide (z ∈ c0)))))) (congrArg Sl.encS (show addS (addsL [] ((p).filter (fun z => decide (z ∈ c0)))) k_34 = (addsL [] (((p ++ [k_34])).filter (fun z => decide (z ∈ c0)))) by (first | rfl | (simp [addsL_snoc]; done) | (simp [addsL_snoc, List.filter_append, *]; done))))
        replace S := S.front1
        replace S := S.reIt (p' := (Sl.encS (p ++ [k_34]))) (congrArg Sl.encS (show p ++ [k_34] = (p ++ [k_34]) by (first | rfl | (simp [addsL_snoc]; done) | (simp [addsL_snoc, List.filter_append, *]; done))))
        exact ⟨(p ++ [k_34]), ⟨M_38, (hM_28.trans (hM_36.trans hM_38)), S, E.keep ⟨rfl, rfl, rfl, trivial⟩, (by exact snocN (by assumption) (by assumption)), (by exact snocS (by assumption) (by assumption)), (by simp; omega)⟩, (by simp; omega)⟩
      · replace hc_37 := of_decide_eq_false hc_37
        refine WP_skip ?_
        refine B_n ?_
        refine T_n ?_
        replace S := S.front1
        replace S := S.reM (L' := (Sl.encS (addsL [] (((p ++ [k_34])).filter (fun z => decide (z ∈ c0)))))) (congrArg Sl.encS (show (addsL [] ((p).filter (fun z => decide (z ∈ c0)))) = (addsL [] (((p ++ [k_34])).filter (fun z => decide (z ∈ c0)))) by (first | rfl | (simp [addsL_snoc]; done) | (simp [addsL_snoc, List.filter_append, *]; done))))
        replace S := S.front1
        replace S := S.reIt (p' := (Sl.encS (p ++ [k_34]))) (congrArg Sl.encS (show p ++ [k_34] = (p ++ [k_34]) by (first | rfl | (simp [addsL_snoc]; done) | (simp [addsL_snoc, List.filter_append, *]; done))))
        exact ⟨(p ++ [k_34]), ⟨M_36, (hM_28.trans hM_36), S, E.keep ⟨rfl, rfl, rfl, trivial⟩, (by exact snocN (by assumption) (by assumption)), (by exact snocS (by assumption) (by assumption)), (by simp; omega)⟩, (by simp; omega)⟩

set_option maxRecDepth 100000 in
set_option maxHeartbeats 4000000 in
theorem U_ToSlice {M : Hp} {m0 : Value} {q0 c0 : List Int} (hm0 : RdM M m0 (Sl.encS q0)) (hn0 : q0.Nodup) (hq0 : ∀ x, x ∈ q0 ↔ x ∈ c0) (b0 : c0.length ≤ 1000000000)  :
    Sp Tryz.prog (.func (.func 213) #[] #[]) M [m0] [] (fun r M' C' => ∃ l, C' = [OwnI 3 r l] ∧ l.Nodup ∧ ∀ x, x ∈ l ↔ x ∈ c0) := by
  refine Sp_enter Tryz.func213 rfl Tryz.ntmps213 rfl Tryz.call213 ?_
  intro a w M1 H hM1 S E
  replace hm0 := hm0.le hM1
  have hql0 : q0.length ≤ c0.length := nodup_len hn0 fun z hz => (hq0 z).1 hz
  have hcl0 := card_le c0
  refine WP_seq ?_
  refine WP_region ?_
  refine S_x (X_box (cs := #[m0]) E S rfl rfl (cells_one (RdM.one' hm0)) ?_)
  clear E a S; rintro a w b_1 E S
  obtain ⟨M_2, hM_2, hb_1, S⟩ := S.freezeB
  replace hm0 := hm0.le hM_2
  refine S_v E rfl (R_assign E rfl) rfl ?_
  clear E a; intro a E
  refine WL_nil ?_
  refine T_n ?_
  refine WP_seq ?_
  refine WP_region ?_
  refine S_x (X_pu E S rfl rfl rfl (U_Cardinality (⟨_, _, _, rfl, hb_1, hm0, hn0, hq0⟩ : RdSU 145 M_2 (.pointer (some ⟨b_1, 0, none⟩)) c0) (by first | assumption | omega)) (Hp.le.refl _) ?_)
  clear E a S; rintro a _ w M_3 hM_3 rfl S E
  replace hm0 := hm0.le hM_3
  replace hb_1 := hM_3.2 _ _ hb_1
  refine S_x (X_make0 (k := card c0) E S rfl rfl rfl T22 rfl (by omega) (by omega) (by omega) ?_)
  clear E a S; rintro a w v_4 E S
  replace S := S.made0
  refine S_v E rfl (R_assign E rfl) rfl ?_
  clear E a; intro a E
  refine WL_nil ?_
  refine T_n ?_
  refine WP_seq ?_
  refine WP_seq ?_
  refine WP_region ?_
  refine S_v E rfl (R_loadM E rfl Tryz.isAgg145 S.imm (cellM_box hb_1)) rfl ?_
  clear E a; intro a E
  refine S_x (X_range E S rfl MT145 hm0 rfl ?_)
  clear E a S; rintro a w i_5 es_6 ck_7 E hf_8 S
  replace S : St w M_3 (ItO m0 es_6 ck_7 i_5 (Sl.encS ([] : List Int)) :: _) := S
  refine WL_nil ?_
  refine T_n ?_
  refine WP_block ?_
  replace S := S.front1
  replace S := S.front1
  replace S := S.front1
  replace S := S.re1 (l' := []) (by (first | rfl | (simp [addsL_snoc]; done) | (simp [addsL_snoc, List.filter_append, *]; done)))
  replace S := S.front1
  replace S := S.reIt (p' := (Sl.encS [])) (congrArg Sl.encS (show ([] : List Int) = [] by (first | rfl | (simp [addsL_snoc]; done) | (simp [addsL_snoc, List.filter_append, *]; done))))
  refine WP_loop (γ := List Int) (fun (p : List Int) a w => ∃ (M_9 : Hp) (u3 : Value), Hp.le M_3 M_9 ∧ St w M_9 (ItO m0 es_6 ck_7 i_5 (Sl.encS p) :: OwnI 3 u3 p :: H) ∧ Env a 18 [] [(3, u3), (8, .pointer (some ⟨i_5, 0, none⟩))] ∧ (p.Nodup) ∧ (∀ z ∈ p, z ∈ q0) ∧ (p.length ≤ q0.length)) (fun p => q0.length - p.length) [] ⟨M_3, _, Hp.le.refl _, S, E.keep ⟨rfl, rfl, trivial⟩, (by simp), (by simp), (by simp)⟩ ?_
  try clear E
  try clear S
  try clear a
  try clear w
  rintro p a w ⟨M_9, u3, hM_9, S, E, hL0_0, hL0_1, hL0_2⟩
  replace hm0 := hm0.le hM_9
  replace hb_1 := hM_9.2 _ _ hb_1
  replace hf_8 := hf_8.le hM_9
  refine WP_seq ?_
  refine WP_region ?_
  refine S_x (X_nextS E S rfl hf_8 rfl (by assumption) (by assumption) ?_ ?_)
  · clear E a S; rintro a E hpm_10 S
    refine S_v E rfl (R_extract E rfl rfl) rfl ?_
    clear E a; intro a E
    refine WL_nil ?_
    refine T_n ?_
    refine WP_seq ?_
    refine WP_condF E rfl rfl ?_
    refine WP_exit ?_
    refine T_x ?_
    refine T_x ?_
    refine B_x ?_
    refine T_n ?_
    refine WP_seq ?_
    refine WP_region ?_
    refine S_v E rfl (R_move E rfl) rfl ?_
    clear E a; intro a E
    refine S_v E rfl (R_assign E rfl) rfl ?_
    clear E a; intro a E
    refine WL_nil ?_
    refine T_n ?_
    refine WP_ret ?_
    replace S := S.drop
    exact F_ret1 E Tryz.results213 rfl ⟨_, rfl, M_9, _, (hM_2.trans (hM_3.trans hM_9)), ⟨_, rfl, (by assumption), (by (intro x; exact (List.Perm.mem_iff (by first | assumption | (exact List.Perm.symm (by assumption)))).trans (hq0 x)))⟩, S⟩
  · clear E a S w; rintro a w k_11 E hk_12 hk_12n hk_12l S
    refine S_v E rfl (R_extract E rfl rfl) rfl ?_
    clear E a; intro a E
    refine WL_nil ?_
    refine T_n ?_
    refine WP_seq ?_
    refine WP_condT E rfl rfl ?_
    refine WP_skip ?_
    refine T_n ?_
    refine WP_block ?_
    refine WP_seq ?_
    refine WP_region ?_
    refine S_v E rfl (R_entry (k := k_11) (v := .agg #[]) E (by have S1 := S; simp only [Sl.encS, List.map_append, List.map_cons, List.map_nil] at S1; exact S1) hf_8 rfl) rfl ?_
    clear E a; intro a E
    refine S_v E rfl (R_extract E rfl rfl) rfl ?_
    clear E a; intro a E
    refine S_v E rfl (R_assign E rfl) rfl ?_
    clear E a; intro a E
    refine WL_nil ?_
    refine T_n ?_
    refine WP_region ?_
    refine S_v E rfl (R_move E rfl) rfl ?_
    clear E a; intro a E
    refine S_v E rfl (R_move E rfl) rfl ?_
    clear E a; intro a E
    refine S_x (X_buildI (ys := [k_11]) E S rfl T22 rfl rfl rfl ?_)
    clear E a S; rintro a w v_13 E S
    replace S := S.front2
    replace S := S.front1
    refine S_x (X_appendB (xs := p) (ys := [k_11]) E S rfl rfl rfl T22 (by (simp; omega)) ?_)
    clear E a S; rintro a w v_14 E S
    refine S_v E rfl (R_assign E rfl) rfl ?_
    clear E a; intro a E
    refine WL_nil ?_
    refine B_n ?_
    refine T_n ?_
    replace S := S.front1
    replace S := S.front1
    replace S := S.re1 (l' := (p ++ [k_11])) (by (first | rfl | (simp [addsL_snoc]; done) | (simp [addsL_snoc, List.filter_append, *]; done)))
    replace S := S.front1
    replace S := S.reIt (p' := (Sl.encS (p ++ [k_11]))) (congrArg Sl.encS (show p ++ [k_11] = (p ++ [k_11]) by (first | rfl | (simp [addsL_snoc]; done) | (simp [addsL_snoc, List.filter_append, *]; done))))
    exact ⟨(p ++ [k_11]), ⟨M_9, _, hM_9, S, E.keep ⟨rfl, rfl, trivial⟩, (by exact snocN (by assumption) (by assumption)), (by exact snocS (by assumption) (by assumption)), (by simp; omega)⟩, (by simp; omega)⟩

set_option maxRecDepth 100000 in
set_option maxHeartbeats 4000000 in
def Tryz.lsort_ren : Go.Shelf.Ren := ⟨fun | 5 => 57 | 8 => 82 | 7 => 81 | 19 => 104 | 20 => 105 | 10 => 95 | 11 => 96 | 12 => 97 | 13 => 98 | 14 => 99 | 15 => 100 | 16 => 101 | 17 => 102 | 18 => 103 | 30 => 112 | 31 => 113 | 32 => 114 | 33 => 115 | 34 => 116 | 35 => 117 | 40 => 131 | n => n, fun | 23 => 22 | 25 => 3 | 3 => 3 | 32 => 113 | 22 => 22 | 0 => 0 | 44 => 130 | 46 => 132 | 4 => 4 | 36 => 123 | 35 => 122 | 41 => 93 | 5 => 5 | 9 => 9 | 53 => 148 | 57 => 152 | 63 => 162 | 64 => 163 | n => n, fun | n => n⟩
set_option maxRecDepth 100000 in
set_option maxHeartbeats 4000000 in
theorem Tryz.lsort : Go.Proofs.SlLaysM.n5 Tryz.prog Tryz.lsort_ren := {
  mixed := by kernel_rfl,
  f5 := ⟨Tryz.f57.name, by decide, Tryz.func57.trans (congrArg some (by kernel_rfl))⟩,
  f7 := ⟨Tryz.f81.name, by decide, Tryz.func81.trans (congrArg some (by kernel_rfl))⟩,
  f8 := Tryz.func82.trans (congrArg some (by kernel_rfl)),
  f10 := ⟨Tryz.f95.name, by decide, Tryz.func95.trans (congrArg some (by kernel_rfl))⟩,
  f11 := ⟨Tryz.f96.name, by decide, Tryz.func96.trans (congrArg some (by kernel_rfl))⟩,
  f12 := ⟨Tryz.f97.name, by decide, Tryz.func97.trans (congrArg some (by kernel_rfl))⟩,
  f13 := ⟨Tryz.f98.name, by decide, Tryz.func98.trans (congrArg some (by kernel_rfl))⟩,
  f14 := ⟨Tryz.f99.name, by decide, Tryz.func99.trans (congrArg some (by kernel_rfl))⟩,
  f15 := ⟨Tryz.f100.name, by decide, Tryz.func100.trans (congrArg some (by kernel_rfl))⟩,
  f16 := ⟨Tryz.f101.name, by decide, Tryz.func101.trans (congrArg some (by kernel_rfl))⟩,
  f17 := ⟨Tryz.f102.name, by decide, Tryz.func102.trans (congrArg some (by kernel_rfl))⟩,
  f18 := ⟨Tryz.f103.name, by decide, Tryz.func103.trans (congrArg some (by kernel_rfl))⟩,
  f19 := Tryz.func104.trans (congrArg some (by kernel_rfl)),
  f20 := Tryz.func105.trans (congrArg some (by kernel_rfl)),
  f30 := ⟨Tryz.f112.name, by decide, Tryz.func112.trans (congrArg some (by kernel_rfl))⟩,
  f31 := Tryz.func113.trans (congrArg some (by kernel_rfl)),
  f32 := Tryz.func114.trans (congrArg some (by kernel_rfl)),
  f33 := ⟨Tryz.f115.name, by decide, Tryz.func115.trans (congrArg some (by kernel_rfl))⟩,
  f34 := ⟨Tryz.f116.name, by decide, Tryz.func116.trans (congrArg some (by kernel_rfl))⟩,
  f35 := ⟨Tryz.f117.name, by decide, Tryz.func117.trans (congrArg some (by kernel_rfl))⟩,
  f40 := ⟨Tryz.f131.name, by decide, Tryz.func131.trans (congrArg some (by kernel_rfl))⟩,
  t0 := Tryz.underlying0,
  a0 := Tryz.isAgg0,
  z0 := Tryz.sizeOf0,
  v0 := Tryz.zeroValue0,
  t3 := Tryz.underlying3,
  a3 := Tryz.isAgg3,
  z3 := Tryz.sizeOf3,
  v3 := Tryz.zeroValue3,
  t4 := Tryz.underlying4,
  a4 := Tryz.isAgg4,
  z4 := Tryz.sizeOf4,
  v4 := Tryz.zeroValue4,
  t5 := Tryz.underlying5,
  a5 := Tryz.isAgg5,
  z5 := Tryz.sizeOf5,
  v5 := Tryz.zeroValue5,
  t9 := Tryz.underlying9,
  a9 := Tryz.isAgg9,
  z9 := Tryz.sizeOf9,
  v9 := Tryz.zeroValue9,
  t22 := Tryz.underlying22,
  a22 := Tryz.isAgg22,
  z22 := Tryz.sizeOf22,
  v22 := Tryz.zeroValue22,
  t23 := Tryz.underlying22,
  a23 := Tryz.isAgg22,
  z23 := Tryz.sizeOf22,
  v23 := Tryz.zeroValue22,
  t25 := Tryz.underlying3,
  a25 := Tryz.isAgg3,
  z25 := Tryz.sizeOf3,
  v25 := Tryz.zeroValue3,
  t32 := Tryz.underlying113,
  a32 := Tryz.isAgg113,
  z32 := Tryz.sizeOf113,
  v32 := Tryz.zeroValue113,
  t35 := Tryz.underlying122,
  a35 := Tryz.isAgg122,
  z35 := Tryz.sizeOf122,
  v35 := Tryz.zeroValue122,
  t36 := Tryz.underlying123,
  a36 := Tryz.isAgg123,
  z36 := Tryz.sizeOf123,
  v36 := Tryz.zeroValue123,
  t41 := Tryz.underlying93,
  a41 := Tryz.isAgg93,
  z41 := Tryz.sizeOf93,
  v41 := Tryz.zeroValue93,
  t44 := Tryz.underlying130,
  a44 := Tryz.isAgg130,
  z44 := Tryz.sizeOf130,
  v44 := Tryz.zeroValue130,
  t46 := Tryz.underlying132,
  a46 := Tryz.isAgg132,
  z46 := Tryz.sizeOf132,
  v46 := Tryz.zeroValue132,
  t53 := Tryz.underlying148,
  a53 := Tryz.isAgg148,
  z53 := Tryz.sizeOf148,
  v53 := Tryz.zeroValue148,
  t57 := Tryz.underlying152,
  a57 := Tryz.isAgg152,
  z57 := Tryz.sizeOf152,
  v57 := Tryz.zeroValue152,
  t63 := Tryz.underlying162,
  a63 := Tryz.isAgg162,
  z63 := Tryz.sizeOf162,
  v63 := Tryz.zeroValue162,
  t64 := Tryz.underlying163,
  a64 := Tryz.isAgg163,
  z64 := Tryz.sizeOf163,
  v64 := Tryz.zeroValue163 }
theorem slices_Sort {M : Hp} {v0 : Value} {l0 : List Int} (b0 : l0.length ≤ 1000000000000) :
    Sp Tryz.prog (.func (.func 57) #[] #[]) M [v0] [OwnI 3 v0 l0] (fun r M' C' => C' = [OwnI 3 v0 (srtM l0)]) :=
  sort_sp Tryz.call57 (fun blk off cap zs w a b c => AnyM.slices_Sort_int Tryz.lsort blk off cap zs w a b c) (fun p cap w => AnyM.slices_Sort_int_none Tryz.lsort p cap w) b0

set_option maxRecDepth 100000 in
set_option maxHeartbeats 4000000 in
theorem U_Sorted {M : Hp} {v0 : Value} {c0 : List Int} (h0 : RdSU 145 M v0 c0) (b0 : c0.length ≤ 1000000000)  :
    Pu Tryz.prog (.func (.func 39) #[] #[]) M [.iface 116 v0] (fun r M' => RdI M' r (suL c0)) := by
  refine Pu_enter Tryz.func39 rfl Tryz.ntmps39 rfl Tryz.call39 ?_
  intro a w M1 H hM1 S E
  replace h0 := h0.le hM1
  refine WP_seq ?_
  refine WP_region ?_
  refine S_v E rfl (R_assign E rfl) rfl ?_
  clear E a; intro a E
  refine WL_nil ?_
  refine T_n ?_
  refine WP_seq ?_
  refine WP_region ?_
  refine S_v E rfl (R_move E rfl) rfl ?_
  clear E a; intro a E
  have hset := h0
  obtain ⟨sb0, sm0, sq0, se0, shb0, shm0, shn0, shq0⟩ := hset
  have shq0l : sq0.length ≤ c0.length := nodup_len shn0 fun z hz => (shq0 z).1 hz
  refine S_x (X_spI (p := []) E S rfl rfl rfl (meth_116_ToSlice se0 (cellM_world S.imm (cellM_box shb0))) Tryz.call213 (U_ToSlice shm0 shn0 shq0 (by first | assumption | omega)) (Hp.le.refl _) ?_)
  clear E a S; rintro a v_2 w M_1 _ hM_1 ⟨l_3, rfl, hl_3n, hl_3m⟩ S E
  have hl_3l : l_3.length ≤ c0.length := nodup_len hl_3n fun z hz => (hl_3m z).1 hz
  replace S : St w M_1 (OwnI 3 v_2 l_3 :: H) := S
  replace h0 := h0.le hM_1
  replace shb0 := hM_1.2 _ _ shb0
  replace shm0 := shm0.le hM_1
  refine S_v E rfl (R_assign E rfl) rfl ?_
  clear E a; intro a E
  refine WL_nil ?_
  refine T_n ?_
  refine WP_seq ?_
  refine WP_region ?_
  refine S_v E rfl (R_move E rfl) rfl ?_
  clear E a; intro a E
  refine S_x (X_sp (p := [OwnI 3 v_2 l_3]) E S rfl rfl rfl (slices_Sort (by (first | omega | (simp; omega) | (simp; done) | (simp_all; omega) | grind))) (Hp.le.refl _) ?_)
  clear E a S; rintro a v_5 w M_4 _ hM_4 rfl S E
  replace S : St w M_4 (OwnI 3 v_2 (srtM l_3) :: _) := S
  replace h0 := h0.le hM_4
  replace shb0 := hM_4.2 _ _ shb0
  replace shm0 := shm0.le hM_4
  refine WL_nil ?_
  refine T_n ?_
  refine WP_seq ?_
  refine WP_region ?_
  refine S_v E rfl (R_move E rfl) rfl ?_
  clear E a; intro a E
  refine S_v E rfl (R_assign E rfl) rfl ?_
  clear E a; intro a E
  refine WL_nil ?_
  refine T_n ?_
  refine WP_ret ?_
  have S0 := S; clear S
  obtain ⟨M_6, hM_6, hz_7, S⟩ := S0.freezeI (by (first | omega | (rw [srtM_len]; omega)))
  clear S0
  replace h0 := h0.le hM_6
  replace shb0 := hM_6.2 _ _ shb0
  replace shm0 := shm0.le hM_6
  exact F_ret1 E Tryz.results39 rfl ⟨_, rfl, M_6, (hM_1.trans (hM_4.trans hM_6)), (by rw [show (suL c0) = (srtM l_3) from by (first | exact suL_of (by assumption) (by assumption) | exact (suL_of (by assumption) (by assumption)).symm)]; exact hz_7), S⟩

set_option maxRecDepth 100000 in
set_option maxHeartbeats 4000000 in
theorem U_SetIntersect {M : Hp} {v1 v2 : Value} {l1 l2 : List Int} (h1 : RdI M v1 l1) (h2 : RdI M v2 l2)(hb1 : l1.length ≤ 100000000) (hb2 : l2.length ≤ 100000000)  :
    Pu Tryz.prog (.func (.func 14) #[] #[]) M [.bool false, v1, v2] (fun r M' => RdI M' r (suL ((l1).filter (fun z => decide (z ∈ l2))))) := by
  refine Pu_enter Tryz.func14 rfl Tryz.ntmps14 rfl Tryz.call14 ?_
  intro a w M1 H hM1 S E
  replace h1 := h1.le hM1
  replace h2 := h2.le hM1
  have b1 := h1.bound
  have b2 := h2.bound
  refine WP_seq ?_
  refine WP_region ?_
  refine S_v E rfl (R_assign E rfl) rfl ?_
  clear E a; intro a E
  refine WL_nil ?_
  refine T_n ?_
  refine WP_seq ?_
  refine WP_region ?_
  refine S_v E rfl (R_move E rfl) rfl ?_
  clear E a; intro a E
  refine S_v E rfl (R_move E rfl) rfl ?_
  clear E a; intro a E
  refine S_v E rfl (R_move E rfl) rfl ?_
  clear E a; intro a E
  refine S_x (X_pu E S rfl rfl rfl (U_twoSets h1 h2 (by first | assumption | omega) (by first | assumption | omega)) (Hp.le.refl _) ?_)
  clear E a S; rintro a _ w M_1 hM_1 ⟨_, _, rfl, ⟨v_2, rfl, hv_2⟩, ⟨v_3, rfl, hv_3⟩⟩ S E
  replace h1 := h1.le hM_1
  replace h2 := h2.le hM_1
  refine S_v E rfl (R_move E rfl) rfl ?_
  clear E a; intro a E
  refine S_v E rfl (R_extract E rfl rfl) rfl ?_
  clear E a; intro a E
  refine S_v E rfl (R_extract E rfl rfl) rfl ?_
  clear E a; intro a E
  refine S_v E rfl (R_assign E rfl) rfl ?_
  clear E a; intro a E
  refine S_v E rfl (R_assign E rfl) rfl ?_
  clear E a; intro a E
  refine WL_nil ?_
  refine T_n ?_
  refine WP_seq ?_
  refine WP_region ?_
  refine S_v E rfl (R_move E rfl) rfl ?_
  clear E a; intro a E
  refine S_v E rfl (R_move E rfl) rfl ?_
  clear E a; intro a E
  refine S_x (X_puI E S rfl rfl rfl (meth_116_Intersect _ _) Tryz.call195 (U_Intersect hv_2 hv_3 (by first | assumption | omega) (by first | assumption | omega)) (Hp.le.refl _) ?_)
  clear E a S; rintro a _ w M_4 hM_4 ⟨v_5, rfl, hv_5⟩ S E
  replace h1 := h1.le hM_4
  replace h2 := h2.le hM_4
  replace hv_2 := hv_2.le hM_4
  replace hv_3 := hv_3.le hM_4
  refine S_x (X_pu E S rfl rfl rfl (U_Sorted hv_5 (by first | assumption | omega | (simp only [List.length_append]; omega) | exact Nat.le_trans (List.length_filter_le _ _) (by omega) | (rw [List.length_append]; have h8 := List.length_filter_le (fun z => decide (z ∉ l2)) l1; have h9 := List.length_filter_le (fun z => decide (z ∉ l1)) l2; omega))) (Hp.le.refl _) ?_)
  clear E a S; rintro a v_7 w M_6 hM_6 hv_7 S E
  replace h1 := h1.le hM_6
  replace h2 := h2.le hM_6
  replace hv_2 := hv_2.le hM_6
  replace hv_3 := hv_3.le hM_6
  replace hv_5 := hv_5.le hM_6
  refine S_v E rfl (R_assign E rfl) rfl ?_
  clear E a; intro a E
  refine WL_nil ?_
  refine T_n ?_
  refine WP_ret ?_
  exact F_ret1 E Tryz.results14 rfl ⟨_, rfl, M_6, (hM_1.trans (hM_4.trans hM_6)), hv_7, S⟩

set_option maxRecDepth 100000 in
set_option maxHeartbeats 4000000 in
theorem S_Intersect {M : Hp} {p0 : Nat} {v0 : Value} {c0 : List Int} (h0 : RdSU 145 M v0 c0) {p1 : Nat} {v1 : Value} {c1 : List Int} (h1 : RdSU 145 M v1 c1) (b0 : c0.length ≤ 1000000000) (b1 : c1.length ≤ 1000000000)  :
    Sp Tryz.prog (.func (.func 171) #[] #[]) M [.pointer (some ⟨p0, 0, none⟩), .iface 114 (.pointer (some ⟨p1, 0, none⟩))] [blk p0 (.cells #[.int .i32 0, .int .u32 0, .int .u32 0, .int .u32 0, .int .i32 0, .int .i32 0, v0] 144), blk p1 (.cells #[.int .i32 0, .int .u32 0, .int .u32 0, .int .u32 0, .int .i32 0, .int .i32 0, v1] 144)] (fun r M' C' => ∃ p_0 v_0, r = .iface 114 (.pointer (some ⟨p_0, 0, none⟩)) ∧ C' = [blk p0 (.cells #[.int .i32 0, .int .u32 0, .int .u32 0, .int .u32 0, .int .i32 0, .int .i32 0, v0] 144), blk p1 (.cells #[.int .i32 0, .int .u32 0, .int .u32 0, .int .u32 0, .int .i32 0, .int .i32 0, v1] 144), blk p_0 (.cells #[.int .i32 0, .int .u32 0, .int .u32 0, .int .u32 0, .int .i32 0, .int .i32 0, v_0] 144)] ∧ (RdSU 145 M' v_0 ((c0).filter (fun z => decide (z ∈ c1))))) := by
  refine Sp_enter Tryz.func171 rfl Tryz.ntmps171 rfl Tryz.call171 ?_
  intro a w M1 H hM1 S E
  replace S : St w M1 (blk p0 (.cells #[.int .i32 0, .int .u32 0, .int .u32 0, .int .u32 0, .int .i32 0, .int .i32 0, v0] 144) :: blk p1 (.cells #[.int .i32 0, .int .u32 0, .int .u32 0, .int .u32 0, .int .i32 0, .int .i32 0, v1] 144) :: _) := S
  replace h0 := h0.le hM1
  replace h1 := h1.le hM1
  have hset := h0
  obtain ⟨sb0, sm0, sq0, se0, shb0, shm0, shn0, shq0⟩ := hset
  have shq0l : sq0.length ≤ c0.length := nodup_len shn0 fun z hz => (shq0 z).1 hz
  have hset := h1
  obtain ⟨sb1, sm1, sq1, se1, shb1, shm1, shn1, shq1⟩ := hset
  have shq1l : sq1.length ≤ c1.length := nodup_len shn1 fun z hz => (shq1 z).1 hz
  refine WP_seq ?_
  refine WP_region ?_
  refine S_v E rfl (R_assign E rfl) rfl ?_
  clear E a; intro a E
  refine WL_nil ?_
  refine T_n ?_
  refine WP_seq ?_
  refine WP_region ?_
  refine S_v E rfl (R_move E rfl) rfl ?_
  clear E a; intro a E
  refine S_v E rfl (R_assert E rfl Tryz.underlying114 (by intro z hz; cases hz)) rfl ?_
  clear E a; intro a E
  refine S_v E rfl (R_assign E rfl) rfl ?_
  clear E a; intro a E
  refine WL_nil ?_
  refine T_n ?_
  refine WP_seq ?_
  refine WP_region ?_
  refine S_v E rfl (R_move E rfl) rfl ?_
  clear E a; intro a E
  refine S_v E rfl (R_nilCheck E rfl rfl) rfl ?_
  clear E a; intro a E
  refine S_v E rfl (R_fieldAddr E rfl (FA144_0 _)) rfl ?_
  clear E a; intro a E
  replace S : St w M1 (LK p0 144 0 v0 :: _) := S
  refine S_x (X_sp (p := [LK p0 144 0 v0]) E S rfl rfl rfl (rlock_sp Tryz.rwRLib (T := 144) (n := 0) (by decide) (by decide)) (Hp.le.refl _) ?_)
  clear E a S; rintro a _ w M_1 _ hM_1 ⟨rfl, rfl⟩ S E
  replace S : St w M_1 (blk p0 (.cells #[.int .i32 0, .int .u32 0, .int .u32 0, .int .u32 0, .int .i32 1, .int .i32 0, v0] 144) :: blk p1 (.cells #[.int .i32 0, .int .u32 0, .int .u32 0, .int .u32 0, .int .i32 0, .int .i32 0, v1] 144) :: H) := S
  replace h0 := h0.le hM_1
  replace h1 := h1.le hM_1
  replace shb0 := hM_1.2 _ _ shb0
  replace shm0 := shm0.le hM_1
  replace shb1 := hM_1.2 _ _ shb1
  replace shm1 := shm1.le hM_1
  refine WL_nil ?_
  refine T_n ?_
  refine WP_seq ?_
  refine WP_region ?_
  refine S_v E rfl (R_move E rfl) rfl ?_
  clear E a; intro a E
  refine S_v E rfl (R_nilCheck E rfl rfl) rfl ?_
  clear E a; intro a E
  refine S_v E rfl (R_fieldAddr E rfl (FA144_0 _)) rfl ?_
  clear E a; intro a E
  replace S := S.front1
  replace S : St w M_1 (LK p1 144 0 v1 :: _) := S
  refine S_x (X_sp (p := [LK p1 144 0 v1]) E S rfl rfl rfl (rlock_sp Tryz.rwRLib (T := 144) (n := 0) (by decide) (by decide)) (Hp.le.refl _) ?_)
  clear E a S; rintro a _ w M_2 _ hM_2 ⟨rfl, rfl⟩ S E
  replace S : St w M_2 (blk p1 (.cells #[.int .i32 0, .int .u32 0, .int .u32 0, .int .u32 0, .int .i32 1, .int .i32 0, v1] 144) :: blk p0 (.cells #[.int .i32 0, .int .u32 0, .int .u32 0, .int .u32 0, .int .i32 1, .int .i32 0, v0] 144) :: H) := S
  replace h0 := h0.le hM_2
  replace h1 := h1.le hM_2
  replace shb0 := hM_2.2 _ _ shb0
  replace shm0 := shm0.le hM_2
  replace shb1 := hM_2.2 _ _ shb1
  replace shm1 := shm1.le hM_2
  refine WL_nil ?_
  refine T_n ?_
  refine WP_seq ?_
  replace S := S.mono_heap (w' := World.drew _) rfl
  refine WP_drawn (C := fun x w => agree M_2 w ∧ (x = 3 → w.heap[p0]? = some (.cells #[.int .i32 0, .int .u32 0, .int .u32 0, .int .u32 0, .int .i32 1, .int .i32 0, v0] 144)) ∧ (x = 7 → w.heap[p1]? = some (.cells #[.int .i32 0, .int .u32 0, .int .u32 0, .int .u32 0, .int .i32 1, .int .i32 0, v1] 144))) (bf := (fun i => bif Nat.beq i 9 then [3, 7] else [])) [0, 1, 2, 3, 4, 5, 6, 7, 8, 10, 11] [0, 1, 2, 3, 4, 5, 6, 7, 8, 9, 10, 11] Tryz.mixed (by kernel_rfl) (fun x hq => ⟨S.imm, fun _ => (S.mem (.tail _ (.head _))), fun _ => (S.mem (.head _))⟩) ?_
  refine D_v E rfl rfl rfl (fun w hC => (R_move E rfl)) ?_
  clear E a; intro a E
  refine D_v E rfl rfl rfl (fun w hC => (R_nilCheck E rfl rfl)) ?_
  clear E a; intro a E
  refine D_v E rfl rfl rfl (fun w hC => (R_fieldAddr E rfl (FA144_1 _))) ?_
  clear E a; intro a E
  refine D_v E rfl rfl rfl (fun w hC => (R_load E rfl (Tryz.isAgg116 _) (cell_blkf (hC.2.1 rfl) rfl))) ?_
  clear E a; intro a E
  refine D_v E rfl rfl rfl (fun w hC => (R_move E rfl)) ?_
  clear E a; intro a E
  refine D_v E rfl rfl rfl (fun w hC => (R_nilCheck E rfl rfl)) ?_
  clear E a; intro a E
  refine D_v E rfl rfl rfl (fun w hC => (R_fieldAddr E rfl (FA144_1 _))) ?_
  clear E a; intro a E
  refine D_v E rfl rfl rfl (fun w hC => (R_load E rfl (Tryz.isAgg116 _) (cell_blkf (hC.2.2 rfl) rfl))) ?_
  clear E a; intro a E
  refine D_v E rfl rfl rfl (fun w hC => (R_ifaceP E rfl Tryz.underlying116)) ?_
  clear E a; intro a E
  refine D_x rfl rfl rfl (X_pu E S rfl rfl rfl (U_Intersect h0 h1 (by first | assumption | omega) (by first | assumption | omega)) (Hp.le.refl _) ?_)
  clear E a S; rintro a _ w M_3 hM_3 ⟨v_4, rfl, hv_4⟩ S E
  replace h0 := h0.le hM_3
  replace h1 := h1.le hM_3
  replace shb0 := hM_3.2 _ _ shb0
  replace shm0 := shm0.le hM_3
  replace shb1 := hM_3.2 _ _ shb1
  replace shm1 := shm1.le hM_3
  refine ⟨fun x hq hb => ⟨(agree_le hM_3 S.imm), (fun e => by subst e; exact absurd hb (by decide)), (fun e => by subst e; exact absurd hb (by decide))⟩, ?_⟩
  refine D_v E rfl rfl rfl (fun w hC => (R_assert E rfl Tryz.underlying116 (by intro z hz; cases hz))) ?_
  clear E a; intro a E
  refine D_v E rfl rfl rfl (fun w hC => (R_assign E rfl)) ?_
  clear E a; intro a E
  refine D_end (NoP_n ?_)
  refine T_n ?_
  refine WP_seq ?_
  refine WP_region ?_
  refine S_v E rfl (R_move E rfl) rfl ?_
  clear E a; intro a E
  have hset := hv_4
  obtain ⟨b_5, m_6, q_7, e_8, hb_9, hm_10, hn_11, hq_12⟩ := hset
  have hq_12l : q_7.length ≤ ((c0).filter (fun z => decide (z ∈ c1))).length := nodup_len hn_11 fun z hz => (hq_12 z).1 hz
  refine S_v E rfl (R_build (u := .agg #[.int .i32 0, .int .u32 0, .int .u32 0, .int .u32 0, .int .i32 0, .int .i32 0, v_4]) (vs := [v_4]) E rfl (fun w => by rw [e_8]; exact BLK144 _ w)) rfl ?_
  clear E a; intro a E
  refine S_x (X_box (cs := #[.int .i32 0, .int .u32 0, .int .u32 0, .int .u32 0, .int .i32 0, .int .i32 0, v_4]) E S rfl rfl rfl ?_)
  clear E a S; rintro a w b_13 E S
  refine S_v E rfl (R_assign E rfl) rfl ?_
  clear E a; intro a E
  refine WL_nil ?_
  refine T_n ?_
  refine WP_seq ?_
  refine WP_region ?_
  refine S_v E rfl (R_move E rfl) rfl ?_
  clear E a; intro a E
  refine S_v E rfl (R_nilCheck E rfl rfl) rfl ?_
  clear E a; intro a E
  refine S_v E rfl (R_fieldAddr E rfl (FA144_0 _)) rfl ?_
  clear E a; intro a E
  replace S := S.front2
  replace S : St w M_3 (LK p0 144 (0 + 1) v0 :: _) := S
  refine S_x (X_sp (p := [LK p0 144 (0 + 1) v0]) E S rfl rfl rfl (runlock_sp Tryz.rwRLib (T := 144) (n := 0) (by decide) (by decide)) (Hp.le.refl _) ?_)
  clear E a S; rintro a _ w M_14 _ hM_14 ⟨rfl, rfl⟩ S E
  replace S : St w M_14 (blk p0 (.cells #[.int .i32 0, .int .u32 0, .int .u32 0, .int .u32 0, .int .i32 0, .int .i32 0, v0] 144) :: blk b_13 (.cells #[.int .i32 0, .int .u32 0, .int .u32 0, .int .u32 0, .int .i32 0, .int .i32 0, v_4] 144) :: blk p1 (.cells #[.int .i32 0, .int .u32 0, .int .u32 0, .int .u32 0, .int .i32 1, .int .i32 0, v1] 144) :: H) := S
  replace h0 := h0.le hM_14
  replace h1 := h1.le hM_14
  replace shb0 := hM_14.2 _ _ shb0
  replace shm0 := shm0.le hM_14
  replace shb1 := hM_14.2 _ _ shb1
  replace shm1 := shm1.le hM_14
  replace hv_4 := hv_4.le hM_14
  replace hb_9 := hM_14.2 _ _ hb_9
  replace hm_10 := hm_10.le hM_14
  refine WL_nil ?_
  refine T_n ?_
  refine WP_seq ?_
  refine WP_region ?_
  refine S_v E rfl (R_move E rfl) rfl ?_
  clear E a; intro a E
  refine S_v E rfl (R_nilCheck E rfl rfl) rfl ?_
  clear E a; intro a E
  refine S_v E rfl (R_fieldAddr E rfl (FA144_0 _)) rfl ?_
  clear E a; intro a E
  replace S := S.front2
  replace S : St w M_14 (LK p1 144 (0 + 1) v1 :: _) := S
  refine S_x (X_sp (p := [LK p1 144 (0 + 1) v1]) E S rfl rfl rfl (runlock_sp Tryz.rwRLib (T := 144) (n := 0) (by decide) (by decide)) (Hp.le.refl _) ?_)
  clear E a S; rintro a _ w M_15 _ hM_15 ⟨rfl, rfl⟩ S E
  replace S : St w M_15 (blk p1 (.cells #[.int .i32 0, .int .u32 0, .int .u32 0, .int .u32 0, .int .i32 0, .int .i32 0, v1] 144) :: blk p0 (.cells #[.int .i32 0, .int .u32 0, .int .u32 0, .int .u32 0, .int .i32 0, .int .i32 0, v0] 144) :: blk b_13 (.cells #[.int .i32 0, .int .u32 0, .int .u32 0, .int .u32 0, .int .i32 0, .int .i32 0, v_4] 144) :: H) := S
  replace h0 := h0.le hM_15
  replace h1 := h1.le hM_15
  replace shb0 := hM_15.2 _ _ shb0
  replace shm0 := shm0.le hM_15
  replace shb1 := hM_15.2 _ _ shb1
  replace shm1 := shm1.le hM_15
  replace hv_4 := hv_4.le hM_15
  replace hb_9 := hM_15.2 _ _ hb_9
  replace hm_10 := hm_10.le hM_15
  refine WL_nil ?_
  refine T_n ?_
  refine WP_seq ?_
  refine WP_region ?_
  refine S_v E rfl (R_move E rfl) rfl ?_
  clear E a; intro a E
  refine S_v E rfl (R_ifaceP E rfl Tryz.underlying114) rfl ?_
  clear E a; intro a E
  refine S_v E rfl (R_assign E rfl) rfl ?_
  clear E a; intro a E
  refine WL_nil ?_
  refine T_n ?_
  refine WP_ret ?_
  replace S := S.front2
  replace S := S.front1
  replace S := S.front2
  exact F_ret1 E Tryz.results171 rfl ⟨_, rfl, M_15, _, (hM_1.trans (hM_2.trans (hM_3.trans (hM_14.trans hM_15)))), ⟨_, _, rfl, rfl, hv_4⟩, S⟩

set_option maxRecDepth 100000 in
set_option maxHeartbeats 4000000 in
theorem S_ToSlice {M : Hp} {p0 : Nat} {v0 : Value} {c0 : List Int} (h0 : RdSU 145 M v0 c0) (b0 : c0.length ≤ 1000000000)  :
    Sp Tryz.prog (.func (.func 182) #[] #[]) M [.pointer (some ⟨p0, 0, none⟩)] [blk p0 (.cells #[.int .i32 0, .int .u32 0, .int .u32 0, .int .u32 0, .int .i32 0, .int .i32 0, v0] 144)] (fun r M' C' => ∃ l_, C' = [blk p0 (.cells #[.int .i32 0, .int .u32 0, .int .u32 0, .int .u32 0, .int .i32 0, .int .i32 0, v0] 144), OwnI 3 r l_] ∧ (l_.Nodup) ∧ (∀ x, x ∈ l_ ↔ x ∈ c0)) := by
  refine Sp_enter Tryz.func182 rfl Tryz.ntmps182 rfl Tryz.call182 ?_
  intro a w M1 H hM1 S E
  replace S : St w M1 (blk p0 (.cells #[.int .i32 0, .int .u32 0, .int .u32 0, .int .u32 0, .int .i32 0, .int .i32 0, v0] 144) :: _) := S
  replace h0 := h0.le hM1
  have hset := h0
  obtain ⟨sb0, sm0, sq0, se0, shb0, shm0, shn0, shq0⟩ := hset
  have shq0l : sq0.length ≤ c0.length := nodup_len shn0 fun z hz => (shq0 z).1 hz
  refine WP_seq ?_
  refine WP_region ?_
  refine S_v E rfl (R_assign E rfl) rfl ?_
  clear E a; intro a E
  refine WL_nil ?_
  refine T_n ?_
  refine WP_seq ?_
  refine WP_region ?_
  refine S_v E rfl (R_move E rfl) rfl ?_
  clear E a; intro a E
  refine S_v E rfl (R_nilCheck E rfl rfl) rfl ?_
  clear E a; intro a E
  refine S_v E rfl (R_fieldAddr E rfl (FA144_0 _)) rfl ?_
  clear E a; intro a E
  replace S : St w M1 (LK p0 144 0 v0 :: _) := S
  refine S_x (X_sp (p := [LK p0 144 0 v0]) E S rfl rfl rfl (rlock_sp Tryz.rwRLib (T := 144) (n := 0) (by decide) (by decide)) (Hp.le.refl _) ?_)
  clear E a S; rintro a _ w M_1 _ hM_1 ⟨rfl, rfl⟩ S E
  replace S : St w M_1 (blk p0 (.cells #[.int .i32 0, .int .u32 0, .int .u32 0, .int .u32 0, .int .i32 1, .int .i32 0, v0] 144) :: H) := S
  replace h0 := h0.le hM_1
  replace shb0 := hM_1.2 _ _ shb0
  replace shm0 := shm0.le hM_1
  refine WL_nil ?_
  refine T_n ?_
  refine WP_seq ?_
  refine WP_region ?_
  refine S_v E rfl (R_move E rfl) rfl ?_
  clear E a; intro a E
  refine S_v E rfl (R_nilCheck E rfl rfl) rfl ?_
  clear E a; intro a E
  refine S_v E rfl (R_fieldAddr E rfl (FA144_1 _)) rfl ?_
  clear E a; intro a E
  refine S_v E rfl (R_load E rfl (Tryz.isAgg116 _) (cell_blkf (S.mem (.head _)) rfl)) rfl ?_
  clear E a; intro a E
  refine S_v E rfl (R_nilCheck E rfl se0) rfl ?_
  clear E a; intro a E
  refine S_v E rfl (R_loadM E (congrArg some se0) Tryz.isAgg145 S.imm (cellM_box shb0)) rfl ?_
  clear E a; intro a E
  refine S_v E rfl ((R_lenF S.imm shm0 E MT145 rfl).trans (by rw [encS_len])) rfl ?_
  clear E a; intro a E
  refine S_v E rfl (R_assign E rfl) rfl ?_
  clear E a; intro a E
  refine WL_nil ?_
  refine T_n ?_
  refine WP_seq ?_
  refine WP_region ?_
  refine S_v E rfl (R_move E rfl) rfl ?_
  clear E a; intro a E
  refine S_x (X_make0 (k := (sq0).length) E S rfl rfl rfl T22 rfl (by omega) (by omega) (by omega) ?_)
  clear E a S; rintro a w v_2 E S
  replace S := S.made0
  refine S_v E rfl (R_assign E rfl) rfl ?_
  clear E a; intro a E
  refine WL_nil ?_
  refine T_n ?_
  refine WP_seq ?_
  refine WP_seq ?_
  refine WP_region ?_
  refine S_v E rfl (R_move E rfl) rfl ?_
  clear E a; intro a E
  refine S_v E rfl (R_nilCheck E rfl rfl) rfl ?_
  clear E a; intro a E
  refine S_v E rfl (R_fieldAddr E rfl (FA144_1 _)) rfl ?_
  clear E a; intro a E
  refine S_v E rfl (R_load E rfl (Tryz.isAgg116 _) (cell_blkf (S.mem (.tail _ (.head _))) rfl)) rfl ?_
  clear E a; intro a E
  refine S_v E rfl (R_nilCheck E rfl se0) rfl ?_
  clear E a; intro a E
  refine S_v E rfl (R_loadM E (congrArg some se0) Tryz.isAgg145 S.imm (cellM_box shb0)) rfl ?_
  clear E a; intro a E
  refine S_x (X_range E S rfl MT145 shm0 rfl ?_)
  clear E a S; rintro a w i_3 es_4 ck_5 E hf_6 S
  replace S : St w M_1 (ItO sm0 es_4 ck_5 i_3 (Sl.encS ([] : List Int)) :: _) := S
  refine WL_nil ?_
  refine T_n ?_
  refine WP_block ?_
  replace S := S.front1
  replace S := S.front1
  replace S := S.front1
  replace S := S.re1 (l' := []) (by (first | rfl | (simp [addsL_snoc]; done) | (simp [addsL_snoc, List.filter_append, *]; done)))
  replace S := S.front1
  replace S := S.reIt (p' := (Sl.encS [])) (congrArg Sl.encS (show ([] : List Int) = [] by (first | rfl | (simp [addsL_snoc]; done) | (simp [addsL_snoc, List.filter_append, *]; done))))
  refine WP_loop (γ := List Int) (fun (p : List Int) a w => ∃ (M_7 : Hp) (u4 : Value), Hp.le M_1 M_7 ∧ St w M_7 (ItO sm0 es_4 ck_5 i_3 (Sl.encS p) :: OwnI 3 u4 p :: blk p0 (.cells #[.int .i32 0, .int .u32 0, .int .u32 0, .int .u32 0, .int .i32 1, .int .i32 0, v0] 144) :: H) ∧ Env a 39 [] [(0, .pointer (some ⟨p0, 0, none⟩)), (4, u4), (25, .pointer (some ⟨i_3, 0, none⟩))] ∧ (p.Nodup) ∧ (∀ z ∈ p, z ∈ sq0) ∧ (p.length ≤ sq0.length)) (fun p => sq0.length - p.length) [] ⟨M_1, _, Hp.le.refl _, S, E.keep ⟨rfl, rfl, rfl, trivial⟩, (by simp), (by simp), (by simp)⟩ ?_
  try clear E
  try clear S
  try clear a
  try clear w
  rintro p a w ⟨M_7, u4, hM_7, S, E, hL0_0, hL0_1, hL0_2⟩
  replace h0 := h0.le hM_7
  replace shb0 := hM_7.2 _ _ shb0
  replace shm0 := shm0.le hM_7
  replace hf_6 := hf_6.le hM_7
  refine WP_seq ?_
  refine WP_region ?_
  refine S_x (X_nextS E S rfl hf_6 rfl (by assumption) (by assumption) ?_ ?_)
  · clear E a S; rintro a E hpm_8 S
    refine S_v E rfl (R_extract E rfl rfl) rfl ?_
    clear E a; intro a E
    refine WL_nil ?_
    refine T_n ?_
    refine WP_seq ?_
    refine WP_condF E rfl rfl ?_
    refine WP_exit ?_
    refine T_x ?_
    refine T_x ?_
    refine B_x ?_
    refine T_n ?_
    refine WP_seq ?_
    refine WP_region ?_
    refine S_v E rfl (R_move E rfl) rfl ?_
    clear E a; intro a E
    refine S_v E rfl (R_nilCheck E rfl rfl) rfl ?_
    clear E a; intro a E
    refine S_v E rfl (R_fieldAddr E rfl (FA144_0 _)) rfl ?_
    clear E a; intro a E
    replace S := S.front2
    replace S : St w M_7 (LK p0 144 (0 + 1) v0 :: _) := S
    refine S_x (X_sp (p := [LK p0 144 (0 + 1) v0]) E S rfl rfl rfl (runlock_sp Tryz.rwRLib (T := 144) (n := 0) (by decide) (by decide)) (Hp.le.refl _) ?_)
    clear E a S; rintro a _ w M_9 _ hM_9 ⟨rfl, rfl⟩ S E
    replace S : St w M_9 (blk p0 (.cells #[.int .i32 0, .int .u32 0, .int .u32 0, .int .u32 0, .int .i32 0, .int .i32 0, v0] 144) :: ItO sm0 es_4 ck_5 i_3 (Sl.encS p) :: OwnI 3 u4 p :: H) := S
    replace h0 := h0.le hM_9
    replace shb0 := hM_9.2 _ _ shb0
    replace shm0 := shm0.le hM_9
    replace hf_6 := hf_6.le hM_9
    refine WL_nil ?_
    refine T_n ?_
    refine WP_seq ?_
    refine WP_region ?_
    refine S_v E rfl (R_move E rfl) rfl ?_
    clear E a; intro a E
    refine S_v E rfl (R_assign E rfl) rfl ?_
    clear E a; intro a E
    refine WL_nil ?_
    refine T_n ?_
    refine WP_ret ?_
    replace S := S.front1
    replace S := S.drop
    replace S := S.front1
    replace S := S.front1
    exact F_ret1 E Tryz.results182 rfl ⟨_, rfl, M_9, _, (hM_1.trans (hM_7.trans hM_9)), ⟨_, rfl, (by assumption), (by (intro x; exact (List.Perm.mem_iff (by first | assumption | (exact List.Perm.symm (by assumption)))).trans (shq0 x)))⟩, S⟩
  · clear E a S w; rintro a w k_10 E hk_11 hk_11n hk_11l S
    refine S_v E rfl (R_extract E rfl rfl) rfl ?_
    clear E a; intro a E
    refine WL_nil ?_
    refine T_n ?_
    refine WP_seq ?_
    refine WP_condT E rfl rfl ?_
    refine WP_skip ?_
    refine T_n ?_
    refine WP_block ?_
    refine WP_seq ?_
    refine WP_region ?_
    refine S_v E rfl (R_entry (k := k_10) (v := .agg #[]) E (by have S1 := S; simp only [Sl.encS, List.map_append, List.map_cons, List.map_nil] at S1; exact S1) hf_6 rfl) rfl ?_
    clear E a; intro a E
    refine S_v E rfl (R_extract E rfl rfl) rfl ?_
    clear E a; intro a E
    refine S_v E rfl (R_assign E rfl) rfl ?_
    clear E a; intro a E
    refine WL_nil ?_
    refine T_n ?_
    refine WP_region ?_
    refine S_v E rfl (R_move E rfl) rfl ?_
    clear E a; intro a E
    refine S_v E rfl (R_move E rfl) rfl ?_
    clear E a; intro a E
    refine S_x (X_buildI (ys := [k_10]) E S rfl T22 rfl rfl rfl ?_)
    clear E a S; rintro a w v_12 E S
    replace S := S.front2
    replace S := S.front1
    refine S_x (X_appendB (xs := p) (ys := [k_10]) E S rfl rfl rfl T22 (by (simp; omega)) ?_)
    clear E a S; rintro a w v_13 E S
    refine S_v E rfl (R_assign E rfl) rfl ?_
    clear E a; intro a E
    refine WL_nil ?_
    refine B_n ?_
    refine T_n ?_
    replace S := S.front2
    replace S := S.front1
    replace S := S.front2
    replace S := S.front1
    replace S := S.re1 (l' := (p ++ [k_10])) (by (first | rfl | (simp [addsL_snoc]; done) | (simp [addsL_snoc, List.filter_append, *]; done)))
    replace S := S.front1
    replace S := S.reIt (p' := (Sl.encS (p ++ [k_10]))) (congrArg Sl.encS (show p ++ [k_10] = (p ++ [k_10]) by (first | rfl | (simp [addsL_snoc]; done) | (simp [addsL_snoc, List.filter_append, *]; done))))
    exact ⟨(p ++ [k_10]), ⟨M_7, _, hM_7, S, E.keep ⟨rfl, rfl, rfl, trivial⟩, (by exact snocN (by assumption) (by assumption)), (by exact snocS (by assumption) (by assumption)), (by simp; omega)⟩, (by simp; omega)⟩

set_option maxRecDepth 100000 in
set_option maxHeartbeats 4000000 in
theorem S_Sorted {M : Hp} {p0 : Nat} {v0 : Value} {c0 : List Int} (h0 : RdSU 145 M v0 c0) (b0 : c0.length ≤ 1000000000)  :
    Sp Tryz.prog (.func (.func 39) #[] #[]) M [.iface 114 (.pointer (some ⟨p0, 0, none⟩))] [blk p0 (.cells #[.int .i32 0, .int .u32 0, .int .u32 0, .int .u32 0, .int .i32 0, .int .i32 0, v0] 144)] (fun r M' C' => C' = [blk p0 (.cells #[.int .i32 0, .int .u32 0, .int .u32 0, .int .u32 0, .int .i32 0, .int .i32 0, v0] 144)] ∧ (RdI M' r (suL c0))) := by
  refine Sp_enter Tryz.func39 rfl Tryz.ntmps39 rfl Tryz.call39 ?_
  intro a w M1 H hM1 S E
  replace S : St w M1 (blk p0 (.cells #[.int .i32 0, .int .u32 0, .int .u32 0, .int .u32 0, .int .i32 0, .int .i32 0, v0] 144) :: _) := S
  replace h0 := h0.le hM1
  refine WP_seq ?_
  refine WP_region ?_
  refine S_v E rfl (R_assign E rfl) rfl ?_
  clear E a; intro a E
  refine WL_nil ?_
  refine T_n ?_
  refine WP_seq ?_
  refine WP_region ?_
  refine S_v E rfl (R_move E rfl) rfl ?_
  clear E a; intro a E
  refine S_x (X_spI (p := [blk p0 (.cells #[.int .i32 0, .int .u32 0, .int .u32 0, .int .u32 0, .int .i32 0, .int .i32 0, v0] 144)]) E S rfl rfl rfl (meth_114_ToSlice _ _) Tryz.call182 (S_ToSlice h0 (by first | assumption | omega)) (Hp.le.refl _) ?_)
  clear E a S; rintro a v_2 w M_1 _ hM_1 ⟨l_3, rfl, hl_3n, hl_3m⟩ S E
  have hl_3l : l_3.length ≤ c0.length := nodup_len hl_3n fun z hz => (hl_3m z).1 hz
  replace S : St w M_1 (blk p0 (.cells #[.int .i32 0, .int .u32 0, .int .u32 0, .int .u32 0, .int .i32 0, .int .i32 0, v0] 144) :: OwnI 3 v_2 l_3 :: H) := S
  replace h0 := h0.le hM_1
  refine S_v E rfl (R_assign E rfl) rfl ?_
  clear E a; intro a E
  refine WL_nil ?_
  refine T_n ?_
  refine WP_seq ?_
  refine WP_region ?_
  refine S_v E rfl (R_move E rfl) rfl ?_
  clear E a; intro a E
  replace S := S.front1
  refine S_x (X_sp (p := [OwnI 3 v_2 l_3]) E S rfl rfl rfl (slices_Sort (by (first | omega | (simp; omega) | (simp; done) | (simp_all; omega) | grind))) (Hp.le.refl _) ?_)
  clear E a S; rintro a v_5 w M_4 _ hM_4 rfl S E
  replace S : St w M_4 (OwnI 3 v_2 (srtM l_3) :: _) := S
  replace h0 := h0.le hM_4
  refine WL_nil ?_
  refine T_n ?_
  refine WP_seq ?_
  refine WP_region ?_
  refine S_v E rfl (R_move E rfl) rfl ?_
  clear E a; intro a E
  refine S_v E rfl (R_assign E rfl) rfl ?_
  clear E a; intro a E
  refine WL_nil ?_
  refine T_n ?_
  refine WP_ret ?_
  have S0 := S; clear S
  obtain ⟨M_6, hM_6, hz_7, S⟩ := S0.freezeI (by (first | omega | (rw [srtM_len]; omega)))
  clear S0
  replace h0 := h0.le hM_6
  exact F_ret1 E Tryz.results39 rfl ⟨_, rfl, M_6, _, (hM_1.trans (hM_4.trans hM_6)), ⟨rfl, (by rw [show (suL c0) = (srtM l_3) from by (first | exact suL_of (by assumption) (by assumption) | exact (suL_of (by assumption) (by assumption)).symm)]; exact hz_7)⟩, S⟩

set_option maxRecDepth 100000 in
set_option maxHeartbeats 4000000 in
theorem S_SetIntersect {M : Hp} {v1 v2 : Value} {l1 l2 : List Int} (h1 : RdI M v1 l1) (h2 : RdI M v2 l2)(hb1 : l1.length ≤ 100000000) (hb2 : l2.length ≤ 100000000)  :
    Pu Tryz.prog (.func (.func 14) #[] #[]) M [.bool true, v1, v2] (fun r M' => RdI M' r (suL ((l1).filter (fun z => decide (z ∈ l2))))) := by
  refine Pu_enter Tryz.func14 rfl Tryz.ntmps14 rfl Tryz.call14 ?_
  intro a w M1 H hM1 S E
  replace h1 := h1.le hM1
  replace h2 := h2.le hM1
  have b1 := h1.bound
  have b2 := h2.bound
  refine WP_seq ?_
  refine WP_region ?_
  refine S_v E rfl (R_assign E rfl) rfl ?_
  clear E a; intro a E
  refine WL_nil ?_
  refine T_n ?_
  refine WP_seq ?_
  refine WP_region ?_
  refine S_v E rfl (R_move E rfl) rfl ?_
  clear E a; intro a E
  refine S_v E rfl (R_move E rfl) rfl ?_
  clear E a; intro a E
  refine S_v E rfl (R_move E rfl) rfl ?_
  clear E a; intro a E
  refine S_x (X_sp (p := []) E S rfl rfl rfl (S_twoSets h1 h2 (by first | assumption | omega) (by first | assumption | omega)) (Hp.le.refl _) ?_)
  clear E a S; rintro a _ w M_1 _ hM_1 ⟨p_3, v_4, p_5, v_6, rfl, rfl, hv_4, hv_6⟩ S E
  replace S : St w M_1 (blk p_3 (.cells #[.int .i32 0, .int .u32 0, .int .u32 0, .int .u32 0, .int .i32 0, .int .i32 0, v_4] 144) :: blk p_5 (.cells #[.int .i32 0, .int .u32 0, .int .u32 0, .int .u32 0, .int .i32 0, .int .i32 0, v_6] 144) :: H) := S
  replace h1 := h1.le hM_1
  replace h2 := h2.le hM_1
  refine S_v E rfl (R_move E rfl) rfl ?_
  clear E a; intro a E
  refine S_v E rfl (R_extract E rfl rfl) rfl ?_
  clear E a; intro a E
  refine S_v E rfl (R_extract E rfl rfl) rfl ?_
  clear E a; intro a E
  refine S_v E rfl (R_assign E rfl) rfl ?_
  clear E a; intro a E
  refine S_v E rfl (R_assign E rfl) rfl ?_
  clear E a; intro a E
  refine WL_nil ?_
  refine T_n ?_
  refine WP_seq ?_
  refine WP_region ?_
  refine S_v E rfl (R_move E rfl) rfl ?_
  clear E a; intro a E
  refine S_v E rfl (R_move E rfl) rfl ?_
  clear E a; intro a E
  replace S := S.front1
  replace S := S.front1
  refine S_x (X_spI (p := [blk p_3 (.cells #[.int .i32 0, .int .u32 0, .int .u32 0, .int .u32 0, .int .i32 0, .int .i32 0, v_4] 144), blk p_5 (.cells #[.int .i32 0, .int .u32 0, .int .u32 0, .int .u32 0, .int .i32 0, .int .i32 0, v_6] 144)]) E S rfl rfl rfl (meth_114_Intersect _ _) Tryz.call171 (S_Intersect hv_4 hv_6 (by first | assumption | omega) (by first | assumption | omega)) (Hp.le.refl _) ?_)
  clear E a S; rintro a _ w M_7 _ hM_7 ⟨p_9, v_10, rfl, rfl, hv_10⟩ S E
  replace S : St w M_7 (blk p_3 (.cells #[.int .i32 0, .int .u32 0, .int .u32 0, .int .u32 0, .int .i32 0, .int .i32 0, v_4] 144) :: blk p_5 (.cells #[.int .i32 0, .int .u32 0, .int .u32 0, .int .u32 0, .int .i32 0, .int .i32 0, v_6] 144) :: blk p_9 (.cells #[.int .i32 0, .int .u32 0, .int .u32 0, .int .u32 0, .int .i32 0, .int .i32 0, v_10] 144) :: H) := S
  replace h1 := h1.le hM_7
  replace h2 := h2.le hM_7
  replace hv_4 := hv_4.le hM_7
  replace hv_6 := hv_6.le hM_7
  replace S := S.front2
  refine S_x (X_sp (p := [blk p_9 (.cells #[.int .i32 0, .int .u32 0, .int .u32 0, .int .u32 0, .int .i32 0, .int .i32 0, v_10] 144)]) E S rfl rfl rfl (S_Sorted hv_10 (by first | assumption | omega | (simp only [List.length_append]; omega) | exact Nat.le_trans (List.length_filter_le _ _) (by omega) | (rw [List.length_append]; have h8 := List.length_filter_le (fun z => decide (z ∉ l2)) l1; have h9 := List.length_filter_le (fun z => decide (z ∉ l1)) l2; omega))) (Hp.le.refl _) ?_)
  clear E a S; rintro a v_13 w M_11 _ hM_11 ⟨rfl, hv_13⟩ S E
  replace S : St w M_11 (blk p_9 (.cells #[.int .i32 0, .int .u32 0, .int .u32 0, .int .u32 0, .int .i32 0, .int .i32 0, v_10] 144) :: blk p_3 (.cells #[.int .i32 0, .int .u32 0, .int .u32 0, .int .u32 0, .int .i32 0, .int .i32 0, v_4] 144) :: blk p_5 (.cells #[.int .i32 0, .int .u32 0, .int .u32 0, .int .u32 0, .int .i32 0, .int .i32 0, v_6] 144) :: H) := S
  replace h1 := h1.le hM_11
  replace h2 := h2.le hM_11
  replace hv_4 := hv_4.le hM_11
  replace hv_6 := hv_6.le hM_11
  replace hv_10 := hv_10.le hM_11
  refine S_v E rfl (R_assign E rfl) rfl ?_
  clear E a; intro a E
  refine WL_nil ?_
  refine T_n ?_
  refine WP_ret ?_
  exact F_ret1 E Tryz.results14 rfl ⟨_, rfl, M_11, (hM_1.trans (hM_7.trans hM_11)), hv_13, S.drop.drop.drop⟩

set_option maxRecDepth 100000 in
set_option maxHeartbeats 4000000 in
theorem impl_SetIntersect {M : Hp} {x0 : Bool} {v1 v2 : Value} {l1 l2 : List Int} (h1 : RdI M v1 l1) (h2 : RdI M v2 l2)(hb1 : l1.length ≤ 100000000) (hb2 : l2.length ≤ 100000000) :
    Pu Tryz.prog (.func (.func 14) #[] #[]) M [.bool x0, v1, v2] (fun r M' => RdI M' r (suL ((l1).filter (fun z => decide (z ∈ l2))))) := by
  cases x0
  · exact U_SetIntersect h1 h2 hb1 hb2
  · exact S_SetIntersect h1 h2 hb1 hb2

set_option maxRecDepth 100000 in
set_option maxHeartbeats 4000000 in
theorem laws_sorted {M : Hp} {v0 : Value} {l0 : List Int} (h0 : RdI M v0 l0) (hb : l0.length ≤ 1000000000000) :
    Pu Tryz.prog (.func (.func 22) #[] #[]) M [v0] (fun r M' => RdI M' r (setI l0)) := by
  refine Pu_enter Tryz.func22 rfl Tryz.ntmps22 rfl Tryz.call22 ?_
  intro a w M1 H hM1 S E
  replace h0 := h0.le hM1
  have b0 := h0.bound
  refine WP_seq ?_
  refine WP_region ?_
  refine S_v E rfl (R_assign E rfl) rfl ?_
  clear E a; intro a E
  refine WL_nil ?_
  refine T_n ?_
  refine WP_seq ?_
  refine WP_region ?_
  refine S_v E rfl (R_assign E rfl) rfl ?_
  clear E a; intro a E
  refine WL_nil ?_
  refine T_n ?_
  refine WP_seq ?_
  refine WP_seq ?_
  refine WP_region ?_
  refine S_v E rfl (R_move E rfl) rfl ?_
  clear E a; intro a E
  refine S_v E rfl (R_lenV E rfl T22 h0.len) rfl ?_
  clear E a; intro a E
  refine S_v E rfl (R_move E rfl) rfl ?_
  clear E a; intro a E
  refine WL_nil ?_
  refine T_n ?_
  refine WP_block ?_
  replace S := (S.ownNil (e := 3) (sz := 1)).made0
  replace S := S.re1 (l' := setI (l0.take 0)) (by first | (simp [setI]; done) | (rw [setI_take' (by assumption), insU_same (by rw [show l0[k]? = some _ by assumption]; assumption)]; done) | (rw [setI_take' (by assumption)]; exact set_bubble hsu.1 (by rw [show l0[k]? = some _ by assumption]; assumption) hL1_1 (by omega) (by first | (left; omega) | (right; exact ⟨_, bub_left (s := setI (l0.take k)) (x := (l0[k]?.getD 0)) (i := (setI (l0.take k)).length - j) (by omega) (by omega) (by assumption), by rw [← bub_at (s := setI (l0.take k)) (x := (l0[k]?.getD 0)) (i := (setI (l0.take k)).length - j) (by omega) (by assumption)]; assumption⟩))))
  refine WP_loop (γ := Nat) (fun (k : Nat) a w => ∃ (M_2 : Hp) (u3 : Value), Hp.le M1 M_2 ∧ St w M_2 (OwnI 3 u3 (setI (l0.take k)) :: H) ∧ Env a 57 [] [(3, u3), (7, v0), (8, .int .i64 (((l0).length : Nat) : Int)), (9, .int .i64 ((k : Nat) : Int))] ∧ (k ≤ (l0).length)) (fun k => ((l0).length) - k) 0 ⟨M1, _, Hp.le.refl _, S, E.keep ⟨rfl, rfl, rfl, rfl, trivial⟩, by ((try clear S); (try clear E); first | assumption | omega | rfl | (simp; done) | (simp_all; done) | (simp [List.take_add_one, *]; done) | grind [List.take_add_one])⟩ ?_
  try clear E
  try clear S
  try clear a
  try clear w
  rintro k a w ⟨M_2, u3, hM_2, S, E, hL0_0⟩
  replace h0 := h0.le hM_2
  have hsu := setI_spec (l0.take k); have hsl := hsu.2.2; simp only [List.length_take] at hsl
  refine WP_seq ?_
  refine WP_region ?_
  refine S_v E rfl (R_lss E rfl rfl) rfl ?_
  clear E a; intro a E
  refine WL_nil ?_
  refine T_n ?_
  refine WP_seq ?_
  refine WP_cond E rfl (fun hc_3 => ?_) (fun hc_3 => ?_)
  · replace hc_3 := of_decide_eq_true hc_3
    refine WP_skip ?_
    refine T_n ?_
    refine WP_seq ?_
    refine WP_block ?_
    refine WP_seq ?_
    refine WP_region ?_
    obtain ⟨x_4, hx_4⟩ : ∃ x, (l0)[k]? = some x := ⟨_, List.getElem?_eq_getElem (by first | omega | (simp; done) | (simp; omega) | (simp_all; omega))⟩
    obtain ⟨p_5, hp_5, qp_5⟩ := h0.at hx_4
    refine S_v E rfl (R_idx E rfl rfl T22 hp_5 rfl) rfl ?_
    clear E a; intro a E
    refine S_v E rfl (R_loadM E rfl Tryz.isAgg3 S.imm qp_5) rfl ?_
    clear E a; intro a E
    refine S_v E rfl (R_assign E rfl) rfl ?_
    clear E a; intro a E
    refine WL_nil ?_
    refine T_n ?_
    refine WP_seq ?_
    refine WP_seq ?_
    refine WP_region ?_
    refine S_v E rfl (R_move E rfl) rfl ?_
    clear E a; intro a E
    refine S_v E rfl (R_move E rfl) rfl ?_
    clear E a; intro a E
    obtain ⟨ML_6, hl_7, hv_8, S1, back⟩ := S.lendI (by omega)
    refine S_x (X_pu E S1 rfl rfl rfl (laws_in hv_8) (Hp.le.refl _) ?_)
    clear E a S; rintro a _ w M_9 hM_10 rfl S E
    replace S := back _ _ hM_10 S
    clear back S1
    refine WL_nil ?_
    refine T_n ?_
    refine WP_cond E rfl (fun hc_11 => ?_) (fun hc_11 => ?_)
    · replace hc_11 := of_decide_eq_true hc_11
      refine WP_exit ?_
      refine T_x ?_
      refine B_x ?_
      refine T_n ?_
      refine WP_region ?_
      refine S_v E rfl (R_addx (m := ((k + 1 : Nat) : Int)) E rfl rfl (by omega) (by omega)) rfl ?_
      clear E a; intro a E
      refine S_v E rfl (R_move E rfl) rfl ?_
      clear E a; intro a E
      refine WL_nil ?_
      refine T_n ?_
      replace S := S.re1 (l' := setI (l0.take (k + 1))) (by first | (simp [setI]; done) | (rw [setI_take' (by assumption), insU_same (by rw [show l0[k]? = some _ by assumption]; assumption)]; done) | (rw [setI_take' (by assumption)]; exact set_bubble hsu.1 (by rw [show l0[k]? = some _ by assumption]; assumption) hL1_1 (by omega) (by first | (left; omega) | (right; exact ⟨_, bub_left (s := setI (l0.take k)) (x := (l0[k]?.getD 0)) (i := (setI (l0.take k)).length - j) (by omega) (by omega) (by assumption), by rw [← bub_at (s := setI (l0.take k)) (x := (l0[k]?.getD 0)) (i := (setI (l0.take k)).length - j) (by omega) (by assumption)]; assumption⟩))))
      exact ⟨k + 1, ⟨M_2, _, hM_2, S, E.keep ⟨rfl, rfl, rfl, rfl, trivial⟩, by ((try clear S); (try clear E); first | assumption | omega | rfl | (simp; done) | (simp_all; done) | (simp [List.take_add_one, *]; done) | grind [List.take_add_one])⟩, by omega⟩
    · replace hc_11 := of_decide_eq_false hc_11
      refine WP_skip ?_
      refine T_n ?_
      refine WP_seq ?_
      refine WP_region ?_
      refine S_v E rfl (R_move E rfl) rfl ?_
      clear E a; intro a E
      refine S_v E rfl (R_move E rfl) rfl ?_
      clear E a; intro a E
      refine S_x (X_buildI (ys := [x_4]) E S rfl T22 rfl rfl rfl ?_)
      clear E a S; rintro a w v_12 E S
      replace S := S.front1
      replace S := S.front1
      refine S_x (X_appendB (xs := setI (l0.take k)) (ys := [x_4]) E S rfl rfl rfl T22 (by first | omega | (simp; done) | (simp; omega) | (simp_all; omega)) ?_)
      clear E a S; rintro a w v_13 E S
      refine S_v E rfl (R_assign E rfl) rfl ?_
      clear E a; intro a E
      refine WL_nil ?_
      refine T_n ?_
      refine WP_seq ?_
      refine WP_region ?_
      refine S_v E rfl (R_move E rfl) rfl ?_
      clear E a; intro a E
      refine S_v E rfl (R_lenV E rfl T22 S.lenC) rfl ?_
      clear E a; intro a E
      refine S_v E rfl (R_subx (m := ((((setI (l0.take k)) ++ [x_4]).length - 1 : Nat) : Int)) E rfl rfl (by first | omega | (simp; done) | (simp; omega)) (by first | omega | (simp; done) | (simp; omega))) rfl ?_
      clear E a; intro a E
      refine S_v E rfl (R_assign E rfl) rfl ?_
      clear E a; intro a E
      refine WL_nil ?_
      refine T_n ?_
      refine WP_block ?_
      replace S := S.re1 (l' := (setI (l0.take k)).take ((setI (l0.take k)).length - 0) ++ [(l0[k]?.getD 0)] ++ (setI (l0.take k)).drop ((setI (l0.take k)).length - 0)) (by first | (rw [show l0[k]? = some _ by assumption]; simp; done) | (have e1 := bub_at (s := setI (l0.take k)) (x := (l0[k]?.getD 0)) (i := (setI (l0.take k)).length - j) (by omega) (by assumption); have e2 := bub_left (s := setI (l0.take k)) (x := (l0[k]?.getD 0)) (i := (setI (l0.take k)).length - j) (by omega) (by omega) (by assumption); rw [show (setI (l0.take k)).length - (j + 1) = (setI (l0.take k)).length - j - 1 by omega, bubble_step (by omega) (by omega) e2, e1]))
      refine WP_loop (γ := Nat) (fun (j : Nat) a w => ∃ (M_14 : Hp), Hp.le M_2 M_14 ∧ St w M_14 (OwnI 3 v_13 ((setI (l0.take k)).take ((setI (l0.take k)).length - j) ++ [(l0[k]?.getD 0)] ++ (setI (l0.take k)).drop ((setI (l0.take k)).length - j)) :: H) ∧ Env a 57 [] [(3, v_13), (6, .int .i64 (((setI (l0.take k)).length - j : Nat) : Int)), (7, v0), (8, .int .i64 (((l0).length : Nat) : Int)), (9, .int .i64 ((k : Nat) : Int))] ∧ (j ≤ (setI (l0.take k)).length) ∧ (∀ y ∈ (setI (l0.take k)).drop ((setI (l0.take k)).length - j), (l0[k]?.getD 0) < y)) (fun j => (setI (l0.take k)).length - j) 0 ⟨M_2, Hp.le.refl _, S, E.keep ⟨rfl, look_nat (i := ((setI (l0.take k)) ++ [x_4]).length - 1) rfl (by (first | (simp; done) | (simp; omega))), rfl, rfl, rfl, trivial⟩, (by omega), (by simp)⟩ ?_
      try clear E
      try clear S
      try clear a
      try clear w
      rintro j a w ⟨M_14, hM_14, S, E, hL1_0, hL1_1⟩
      replace h0 := h0.le hM_14
      refine WP_seq ?_
      refine WP_seq ?_
      replace S := S.mono_heap (w' := World.drew _) rfl
      obtain ⟨p_15, hp_15⟩ := S.ptrC (k := (setI (l0.take k)).length - j) (by first | omega | (simp; done) | (simp; omega) | (simp_all; omega))
      obtain ⟨x_16, hx_16⟩ : ∃ x, ((setI (l0.take k)).take ((setI (l0.take k)).length - j) ++ [(l0[k]?.getD 0)] ++ (setI (l0.take k)).drop ((setI (l0.take k)).length - j))[(setI (l0.take k)).length - j]? = some x := ⟨_, List.getElem?_eq_getElem (by first | omega | (simp; done) | (simp; omega) | (simp_all; omega))⟩
      obtain ⟨p_17, hp_17⟩ := S.ptrC (k := (setI (l0.take k)).length - j - 1) (by first | omega | (simp; done) | (simp; omega) | (simp_all; omega))
      obtain ⟨x_18, hx_18⟩ : ∃ x, ((setI (l0.take k)).take ((setI (l0.take k)).length - j) ++ [(l0[k]?.getD 0)] ++ (setI (l0.take k)).drop ((setI (l0.take k)).length - j))[(setI (l0.take k)).length - j - 1]? = some x := ⟨_, List.getElem?_eq_getElem (by first | omega | (simp; done) | (simp; omega) | (simp_all; omega))⟩
      refine WP_drawn (C := fun x w => agree M_14 w ∧ (x = 6 → w.cell? p_15 = some (.int .i64 x_16)) ∧ (x = 11 → w.cell? p_17 = some (.int .i64 x_18))) (bf := (fun i => [])) [0, 1, 2, 3, 4, 5, 6, 7, 8, 9, 10, 11, 12, 13] [0, 1, 2, 3, 4, 5, 6, 7, 8, 9, 10, 11, 12, 13] Tryz.mixed (by kernel_rfl) (fun x hq => ⟨S.imm, fun _ => S.cellI hp_15 hx_16, fun _ => S.cellI hp_17 hx_18⟩) ?_
      refine D_v E rfl rfl rfl (fun w hC => (R_move E rfl)) ?_
      clear E a; intro a E
      refine D_v E rfl rfl rfl (fun w hC => (R_gtr E rfl rfl)) ?_
      clear E a; intro a E
      refine D_v E rfl rfl rfl (fun w hC => (R_move E rfl)) ?_
      clear E a; intro a E
      refine split_bool (decide (0 < (((setI (l0.take k)).length - j : Nat) : Int))) (fun hc_19 => ?_) (fun hc_19 => ?_)
      · replace E := E.val (t := 24) rfl hc_19
        replace E := E.val (t := 25) rfl hc_19
        replace hc_19 := of_decide_eq_true hc_19
        refine D_vyes E rfl rfl rfl rfl rfl (fun w hC => (R_move E rfl)) ?_
        clear E a; intro a E
        refine D_vyes E rfl rfl rfl rfl rfl (fun w hC => (R_move E rfl)) ?_
        clear E a; intro a E
        refine D_vyes E rfl rfl rfl rfl rfl (fun w hC => (R_idx E rfl rfl T22 hp_15 rfl)) ?_
        clear E a; intro a E
        refine D_vyes E rfl rfl rfl rfl rfl (fun w hC => (R_load E rfl (Tryz.isAgg3 _) (hC.2.1 rfl))) ?_
        clear E a; intro a E
        refine D_vyes E rfl rfl rfl rfl rfl (fun w hC => (R_move E rfl)) ?_
        clear E a; intro a E
        refine D_vyes E rfl rfl rfl rfl rfl (fun w hC => (R_move E rfl)) ?_
        clear E a; intro a E
        refine D_vyes E rfl rfl rfl rfl rfl (fun w hC => (R_subx (m := (((setI (l0.take k)).length - j - 1 : Nat) : Int)) E rfl rfl (by first | omega | (simp; done) | (simp; omega)) (by first | omega | (simp; done) | (simp; omega)))) ?_
        clear E a; intro a E
        refine D_vyes E rfl rfl rfl rfl rfl (fun w hC => (R_idx E rfl rfl T22 hp_17 rfl)) ?_
        clear E a; intro a E
        refine D_vyes E rfl rfl rfl rfl rfl (fun w hC => (R_load E rfl (Tryz.isAgg3 _) (hC.2.2 rfl))) ?_
        clear E a; intro a E
        refine D_vyes E rfl rfl rfl rfl rfl (fun w hC => (R_lss E rfl rfl)) ?_
        clear E a; intro a E
        refine D_v E rfl rfl rfl (fun w hC => (R_pickT E rfl rfl)) ?_
        clear E a; intro a E
        refine D_end (NoP_n ?_)
        refine T_n ?_
        refine WP_cond E rfl (fun hc_20 => ?_) (fun hc_20 => ?_)
        · replace hc_20 := of_decide_eq_true hc_20
          refine WP_skip ?_
          refine T_n ?_
          refine WP_seq ?_
          refine WP_block ?_
          replace S := S.mono_heap (w' := World.drew _) rfl
          refine WP_drawn (C := fun x w => agree M_14 w ∧ (x = 9 → w.cell? p_17 = some (.int .i64 x_18)) ∧ (x = 13 → w.cell? p_15 = some (.int .i64 x_16))) (bf := (fun i => bif Nat.beq i 15 then [9, 13] else bif Nat.beq i 17 then [9, 13] else [])) [0, 1, 2, 3, 4, 5, 6, 7, 8, 9, 10, 11, 12, 13, 14, 16] [0, 1, 2, 3, 4, 5, 6, 7, 8, 9, 10, 11, 12, 13, 14, 15, 16, 17] Tryz.mixed (by kernel_rfl) (fun x hq => ⟨S.imm, fun _ => S.cellI hp_17 hx_18, fun _ => S.cellI hp_15 hx_16⟩) ?_
          refine D_v E rfl rfl rfl (fun w hC => (R_move E rfl)) ?_
          clear E a; intro a E
          refine D_v E rfl rfl rfl (fun w hC => (R_move E rfl)) ?_
          clear E a; intro a E
          refine D_v E rfl rfl rfl (fun w hC => (R_move E rfl)) ?_
          clear E a; intro a E
          refine D_v E rfl rfl rfl (fun w hC => (R_move E rfl)) ?_
          clear E a; intro a E
          refine D_v E rfl rfl rfl (fun w hC => (R_subx (m := (((setI (l0.take k)).length - j - 1 : Nat) : Int)) E rfl rfl (by omega) (by omega))) ?_
          clear E a; intro a E
          refine D_v E rfl rfl rfl (fun w hC => (R_move E rfl)) ?_
          clear E a; intro a E
          refine D_v E rfl rfl rfl (fun w hC => (R_move E rfl)) ?_
          clear E a; intro a E
          refine D_v E rfl rfl rfl (fun w hC => (R_subx (m := (((setI (l0.take k)).length - j - 1 : Nat) : Int)) E rfl rfl (by omega) (by omega))) ?_
          clear E a; intro a E
          refine D_v E rfl rfl rfl (fun w hC => (R_idx E rfl rfl T22 hp_17 rfl)) ?_
          clear E a; intro a E
          refine D_v E rfl rfl rfl (fun w hC => (R_load E rfl (Tryz.isAgg3 _) (hC.2.1 rfl))) ?_
          clear E a; intro a E
          refine D_v E rfl rfl rfl (fun w hC => (R_move E rfl)) ?_
          clear E a; intro a E
          refine D_v E rfl rfl rfl (fun w hC => (R_move E rfl)) ?_
          clear E a; intro a E
          refine D_v E rfl rfl rfl (fun w hC => (R_idx E rfl rfl T22 hp_15 rfl)) ?_
          clear E a; intro a E
          refine D_v E rfl rfl rfl (fun w hC => (R_load E rfl (Tryz.isAgg3 _) (hC.2.2 rfl))) ?_
          clear E a; intro a E
          refine D_v E rfl rfl rfl (fun w hC => (R_idx E rfl rfl T22 hp_15 rfl)) ?_
          clear E a; intro a E
          refine D_x rfl rfl rfl (X_storeI E S rfl rfl (Tryz.sizeOf3 _) hp_15 ?_)
          clear E a S; rintro a w E S
          refine ⟨fun x hq hb => ⟨(agree_le (Hp.le.refl _) S.imm), (fun e => by subst e; exact absurd hb (by decide)), (fun e => by subst e; exact absurd hb (by decide))⟩, ?_⟩
          refine D_v E rfl rfl rfl (fun w hC => (R_idx E rfl rfl T22 hp_17 rfl)) ?_
          clear E a; intro a E
          refine D_x rfl rfl rfl (X_storeI E S rfl rfl (Tryz.sizeOf3 _) hp_17 ?_)
          clear E a S; rintro a w E S
          refine ⟨fun x hq hb => ⟨(agree_le (Hp.le.refl _) S.imm), (fun e => by subst e; exact absurd hb (by decide)), (fun e => by subst e; exact absurd hb (by decide))⟩, ?_⟩
          refine D_end (NoP_n ?_)
          refine B_n ?_
          refine T_n ?_
          refine WP_region ?_
          refine S_v E rfl (R_move E rfl) rfl ?_
          clear E a; intro a E
          refine S_v E rfl (R_subx (m := (((setI (l0.take k)).length - j - 1 : Nat) : Int)) E rfl rfl (by first | omega | (simp; done) | (simp; omega)) (by first | omega | (simp; done) | (simp; omega))) rfl ?_
          clear E a; intro a E
          refine S_v E rfl (R_assign E rfl) rfl ?_
          clear E a; intro a E
          refine WL_nil ?_
          refine T_n ?_
          replace S := S.re1 (l' := (setI (l0.take k)).take ((setI (l0.take k)).length - (j + 1)) ++ [(l0[k]?.getD 0)] ++ (setI (l0.take k)).drop ((setI (l0.take k)).length - (j + 1))) (by first | (rw [show l0[k]? = some _ by assumption]; simp; done) | (have e1 := bub_at (s := setI (l0.take k)) (x := (l0[k]?.getD 0)) (i := (setI (l0.take k)).length - j) (by omega) (by assumption); have e2 := bub_left (s := setI (l0.take k)) (x := (l0[k]?.getD 0)) (i := (setI (l0.take k)).length - j) (by omega) (by omega) (by assumption); rw [show (setI (l0.take k)).length - (j + 1) = (setI (l0.take k)).length - j - 1 by omega, bubble_step (by omega) (by omega) e2, e1]))
          exact ⟨j + 1, ⟨M_14, hM_14, S, E.keep ⟨rfl, look_nat (i := (setI (l0.take k)).length - j - 1) rfl (by (omega)), rfl, rfl, rfl, trivial⟩, (by omega), (by rw [show (setI (l0.take k)).length - (j + 1) = (setI (l0.take k)).length - j - 1 by omega]; exact drop_bub hL1_1 (by omega) (by omega) (bub_left (s := setI (l0.take k)) (x := (l0[k]?.getD 0)) (i := (setI (l0.take k)).length - j) (by omega) (by omega) (by assumption)) (by rw [← bub_at (s := setI (l0.take k)) (x := (l0[k]?.getD 0)) (i := (setI (l0.take k)).length - j) (by omega) (by assumption)]; assumption))⟩, by omega⟩
        · replace hc_20 := of_decide_eq_false hc_20
          refine WP_exit ?_
          refine T_x ?_
          refine T_x ?_
          refine B_x ?_
          refine B_n ?_
          refine T_n ?_
          refine WP_region ?_
          refine S_v E rfl (R_addx (m := ((k + 1 : Nat) : Int)) E rfl rfl (by omega) (by omega)) rfl ?_
          clear E a; intro a E
          refine S_v E rfl (R_move E rfl) rfl ?_
          clear E a; intro a E
          refine WL_nil ?_
          refine T_n ?_
          replace S := S.re1 (l' := setI (l0.take (k + 1))) (by first | (simp [setI]; done) | (rw [setI_take' (by assumption), insU_same (by rw [show l0[k]? = some _ by assumption]; assumption)]; done) | (rw [setI_take' (by assumption)]; exact set_bubble hsu.1 (by rw [show l0[k]? = some _ by assumption]; assumption) hL1_1 (by omega) (by first | (left; omega) | (right; exact ⟨_, bub_left (s := setI (l0.take k)) (x := (l0[k]?.getD 0)) (i := (setI (l0.take k)).length - j) (by omega) (by omega) (by assumption), by rw [← bub_at (s := setI (l0.take k)) (x := (l0[k]?.getD 0)) (i := (setI (l0.take k)).length - j) (by omega) (by assumption)]; assumption⟩))))
          exact ⟨k + 1, ⟨M_14, _, (hM_2.trans hM_14), S, E.keep ⟨rfl, rfl, rfl, rfl, trivial⟩, by ((try clear S); (try clear E); first | assumption | omega | rfl | (simp; done) | (simp_all; done) | (simp [List.take_add_one, *]; done) | grind [List.take_add_one])⟩, by omega⟩
      · replace E := E.val (t := 24) rfl hc_19
        replace E := E.val (t := 25) rfl hc_19
        replace hc_19 := of_decide_eq_false hc_19
        refine D_no E rfl rfl rfl rfl rfl fun a E => ?_
        refine D_no E rfl rfl rfl rfl rfl fun a E => ?_
        refine D_no E rfl rfl rfl rfl rfl fun a E => ?_
        refine D_no E rfl rfl rfl rfl rfl fun a E => ?_
        refine D_no E rfl rfl rfl rfl rfl fun a E => ?_
        refine D_no E rfl rfl rfl rfl rfl fun a E => ?_
        refine D_no E rfl rfl rfl rfl rfl fun a E => ?_
        refine D_no E rfl rfl rfl rfl rfl fun a E => ?_
        refine D_no E rfl rfl rfl rfl rfl fun a E => ?_
        refine D_no E rfl rfl rfl rfl rfl fun a E => ?_
        refine D_v E rfl rfl rfl (fun w hC => (R_pickF E rfl rfl)) ?_
        clear E a; intro a E
        refine D_end (NoP_n ?_)
        refine T_n ?_
        refine WP_condF E rfl rfl ?_
        refine WP_exit ?_
        refine T_x ?_
        refine T_x ?_
        refine B_x ?_
        refine B_n ?_
        refine T_n ?_
        refine WP_region ?_
        refine S_v E rfl (R_addx (m := ((k + 1 : Nat) : Int)) E rfl rfl (by omega) (by omega)) rfl ?_
        clear E a; intro a E
        refine S_v E rfl (R_move E rfl) rfl ?_
        clear E a; intro a E
        refine WL_nil ?_
        refine T_n ?_
        replace S := S.re1 (l' := setI (l0.take (k + 1))) (by first | (simp [setI]; done) | (rw [setI_take' (by assumption), insU_same (by rw [show l0[k]? = some _ by assumption]; assumption)]; done) | (rw [setI_take' (by assumption)]; exact set_bubble hsu.1 (by rw [show l0[k]? = some _ by assumption]; assumption) hL1_1 (by omega) (by first | (left; omega) | (right; exact ⟨_, bub_left (s := setI (l0.take k)) (x := (l0[k]?.getD 0)) (i := (setI (l0.take k)).length - j) (by omega) (by omega) (by assumption), by rw [← bub_at (s := setI (l0.take k)) (x := (l0[k]?.getD 0)) (i := (setI (l0.take k)).length - j) (by omega) (by assumption)]; assumption⟩))))
        exact ⟨k + 1, ⟨M_14, _, (hM_2.trans hM_14), S, E.keep ⟨rfl, rfl, rfl, rfl, trivial⟩, by ((try clear S); (try clear E); first | assumption | omega | rfl | (simp; done) | (simp_all; done) | (simp [List.take_add_one, *]; done) | grind [List.take_add_one])⟩, by omega⟩
  · replace hc_3 := of_decide_eq_false hc_3
    refine WP_exit ?_
    refine T_x ?_
    refine T_x ?_
    refine B_x ?_
    refine T_n ?_
    refine WP_seq ?_
    refine WP_region ?_
    refine S_v E rfl (R_move E rfl) rfl ?_
    clear E a; intro a E
    refine S_v E rfl (R_assign E rfl) rfl ?_
    clear E a; intro a E
    refine WL_nil ?_
    refine T_n ?_
    refine WP_ret ?_
    have S0 := S; clear S
    obtain ⟨M_21, hM_21, hz_22, S⟩ := S0.freezeI (by (first | omega | (simp; omega) | (simp; done) | (simp_all; omega) | grind))
    clear S0
    replace h0 := h0.le hM_21
    exact F_ret1 E Tryz.results22 rfl ⟨_, rfl, M_21, (hM_2.trans hM_21), (by rw [show (setI l0) = (setI (l0.take k)) from by (rw [List.take_of_length_le (by omega)])]; exact hz_22), S⟩

set_option maxRecDepth 100000 in
set_option maxHeartbeats 4000000 in
theorem laws_eq {M : Hp} {v0 v1 : Value} {l0 l1 : List Int} (h0 : RdI M v0 l0) (h1 : RdI M v1 l1) :
    Pu Tryz.prog (.func (.func 19) #[] #[]) M [v0, v1] (fun r M' => r = .bool (decide (l0 = l1))) := by
  refine Pu_enter Tryz.func19 rfl Tryz.ntmps19 rfl Tryz.call19 ?_
  intro a w M1 H hM1 S E
  replace h0 := h0.le hM1
  replace h1 := h1.le hM1
  have b0 := h0.bound
  have b1 := h1.bound
  refine WP_seq ?_
  refine WP_region ?_
  refine S_v E rfl (R_assign E rfl) rfl ?_
  clear E a; intro a E
  refine WL_nil ?_
  refine T_n ?_
  refine WP_seq ?_
  refine WP_seq ?_
  refine WP_region ?_
  refine S_v E rfl (R_move E rfl) rfl ?_
  clear E a; intro a E
  refine S_v E rfl (R_lenV E rfl T22 h0.len) rfl ?_
  clear E a; intro a E
  refine S_v E rfl (R_move E rfl) rfl ?_
  clear E a; intro a E
  refine S_v E rfl (R_lenV E rfl T22 h1.len) rfl ?_
  clear E a; intro a E
  refine S_v E rfl (R_neq E rfl rfl) rfl ?_
  clear E a; intro a E
  refine WL_nil ?_
  refine T_n ?_
  refine WP_cond E rfl (fun hc_1 => ?_) (fun hc_1 => ?_)
  · replace hc_1 := of_decide_eq_true hc_1
    refine WP_seq ?_
    refine WP_region ?_
    refine S_v E rfl (R_assign E rfl) rfl ?_
    clear E a; intro a E
    refine WL_nil ?_
    refine T_n ?_
    refine WP_ret ?_
    refine T_r ?_
    exact F_ret1 E Tryz.results19 rfl ⟨_, rfl, M1, (Hp.le.refl _), (bF (by ((try clear S); (try clear E); first | assumption | omega | rfl | (simp; done) | (simp_all; done) | (simp [List.take_add_one, *]; done) | grind [List.take_add_one]))), S⟩
  · replace hc_1 := of_decide_eq_false hc_1
    refine WP_skip ?_
    refine T_n ?_
    refine WP_seq ?_
    refine WP_seq ?_
    refine WP_region ?_
    refine S_v E rfl (R_move E rfl) rfl ?_
    clear E a; intro a E
    refine S_v E rfl (R_lenV E rfl T22 h0.len) rfl ?_
    clear E a; intro a E
    refine S_v E rfl (R_move E rfl) rfl ?_
    clear E a; intro a E
    refine WL_nil ?_
    refine T_n ?_
    refine WP_block ?_
    refine WP_loop (γ := Nat) (fun (k : Nat) a w => ∃ (M_2 : Hp), Hp.le M1 M_2 ∧ St w M_2 (H) ∧ Env a 26 [] [(0, v0), (1, v1), (12, .int .i64 (((l0).length : Nat) : Int)), (13, .int .i64 ((k : Nat) : Int))] ∧ (k ≤ (l0).length) ∧ (l0.length = l1.length) ∧ (l0.take k = l1.take k)) (fun k => ((l0).length) - k) 0 ⟨M1, Hp.le.refl _, S, E.keep ⟨rfl, rfl, rfl, rfl, trivial⟩, by ((try clear S); (try clear E); first | assumption | omega | rfl | (simp; done) | (simp_all; done) | (simp [List.take_add_one, *]; done) | grind [List.take_add_one]), by ((try clear S); (try clear E); first | assumption | omega | rfl | (simp; done) | (simp_all; done) | (simp [List.take_add_one, *]; done) | grind [List.take_add_one]), by ((try clear S); (try clear E); first | assumption | omega | rfl | (simp; done) | (simp_all; done) | (simp [List.take_add_one, *]; done) | grind [List.take_add_one])⟩ ?_
    try clear E
    try clear S
    try clear a
    try clear w
    rintro k a w ⟨M_2, hM_2, S, E, hL0_0, hL0_1, hL0_2⟩
    replace h0 := h0.le hM_2
    replace h1 := h1.le hM_2
    refine WP_seq ?_
    refine WP_region ?_
    refine S_v E rfl (R_lss E rfl rfl) rfl ?_
    clear E a; intro a E
    refine WL_nil ?_
    refine T_n ?_
    refine WP_seq ?_
    refine WP_cond E rfl (fun hc_3 => ?_) (fun hc_3 => ?_)
    · replace hc_3 := of_decide_eq_true hc_3
      refine WP_skip ?_
      refine T_n ?_
      refine WP_seq ?_
      refine WP_block ?_
      refine WP_seq ?_
      refine WP_region ?_
      refine S_v E rfl (R_move E rfl) rfl ?_
      clear E a; intro a E
      refine S_v E rfl (R_assign E rfl) rfl ?_
      clear E a; intro a E
      refine WL_nil ?_
      refine T_n ?_
      refine WP_seq ?_
      replace S := S.mono_heap (w' := World.drew _) rfl
      refine WP_drawn (C := fun x w => agree M_2 w) (bf := (fun i => [])) [0, 1, 2, 3, 4, 5, 6, 7, 8] [0, 1, 2, 3, 4, 5, 6, 7, 8] Tryz.mixed (by kernel_rfl) (fun x hq => S.imm) ?_
      refine D_v E rfl rfl rfl (fun w hC => (R_move E rfl)) ?_
      clear E a; intro a E
      refine D_v E rfl rfl rfl (fun w hC => (R_move E rfl)) ?_
      clear E a; intro a E
      obtain ⟨x_4, hx_4⟩ : ∃ x, (l0)[k]? = some x := ⟨_, List.getElem?_eq_getElem (by first | omega | (simp; done) | (simp; omega) | (simp_all; omega))⟩
      obtain ⟨p_5, hp_5, qp_5⟩ := h0.at hx_4
      refine D_v E rfl rfl rfl (fun w hC => (R_idx E rfl rfl T22 hp_5 rfl)) ?_
      clear E a; intro a E
      refine D_v E rfl rfl rfl (fun w hC => (R_loadM E rfl Tryz.isAgg3 hC qp_5)) ?_
      clear E a; intro a E
      refine D_v E rfl rfl rfl (fun w hC => (R_move E rfl)) ?_
      clear E a; intro a E
      refine D_v E rfl rfl rfl (fun w hC => (R_move E rfl)) ?_
      clear E a; intro a E
      obtain ⟨x_6, hx_6⟩ : ∃ x, (l1)[k]? = some x := ⟨_, List.getElem?_eq_getElem (by first | omega | (simp; done) | (simp; omega) | (simp_all; omega))⟩
      obtain ⟨p_7, hp_7, qp_7⟩ := h1.at hx_6
      refine D_v E rfl rfl rfl (fun w hC => (R_idx E rfl rfl T22 hp_7 rfl)) ?_
      clear E a; intro a E
      refine D_v E rfl rfl rfl (fun w hC => (R_loadM E rfl Tryz.isAgg3 hC qp_7)) ?_
      clear E a; intro a E
      refine D_v E rfl rfl rfl (fun w hC => (R_neq E rfl rfl)) ?_
      clear E a; intro a E
      refine D_end (NoP_n ?_)
      refine T_n ?_
      refine WP_cond E rfl (fun hc_8 => ?_) (fun hc_8 => ?_)
      · replace hc_8 := of_decide_eq_true hc_8
        refine WP_seq ?_
        refine WP_region ?_
        refine S_v E rfl (R_assign E rfl) rfl ?_
        clear E a; intro a E
        refine WL_nil ?_
        refine T_n ?_
        refine WP_ret ?_
        refine B_r ?_
        refine T_r ?_
        refine T_r ?_
        refine B_r ?_
        refine T_r ?_
        exact F_ret1 E Tryz.results19 rfl ⟨_, rfl, M_2, hM_2, (bF (by ((try clear S); (try clear E); first | assumption | omega | rfl | (simp; done) | (simp_all; done) | (simp [List.take_add_one, *]; done) | grind [List.take_add_one]))), S⟩
      · replace hc_8 := of_decide_eq_false hc_8
        refine WP_skip ?_
        refine B_n ?_
        refine T_n ?_
        refine WP_region ?_
        refine S_v E rfl (R_addx (m := ((k + 1 : Nat) : Int)) E rfl rfl (by omega) (by omega)) rfl ?_
        clear E a; intro a E
        refine S_v E rfl (R_move E rfl) rfl ?_
        clear E a; intro a E
        refine WL_nil ?_
        refine T_n ?_
        exact ⟨k + 1, ⟨M_2, hM_2, S, E.keep ⟨rfl, rfl, rfl, rfl, trivial⟩, by ((try clear S); (try clear E); first | assumption | omega | rfl | (simp; done) | (simp_all; done) | (simp [List.take_add_one, *]; done) | grind [List.take_add_one]), by ((try clear S); (try clear E); first | assumption | omega | rfl | (simp; done) | (simp_all; done) | (simp [List.take_add_one, *]; done) | grind [List.take_add_one]), by ((try clear S); (try clear E); first | assumption | omega | rfl | (simp; done) | (simp_all; done) | (simp [List.take_add_one, *]; done) | grind [List.take_add_one])⟩, by omega⟩
    · replace hc_3 := of_decide_eq_false hc_3
      refine WP_exit ?_
      refine T_x ?_
      refine T_x ?_
      refine B_x ?_
      refine T_n ?_
      refine WP_seq ?_
      refine WP_region ?_
      refine S_v E rfl (R_assign E rfl) rfl ?_
      clear E a; intro a E
      refine WL_nil ?_
      refine T_n ?_
      refine WP_ret ?_
      exact F_ret1 E Tryz.results19 rfl ⟨_, rfl, M_2, hM_2, (bT (by ((try clear S); (try clear E); first | assumption | omega | rfl | (simp; done) | (simp_all; done) | (simp [List.take_add_one, *]; done) | grind [List.take_add_one]))), S⟩

set_option maxRecDepth 100000 in
set_option maxHeartbeats 4000000 in
theorem U_Difference {M : Hp} {v0 : Value} {c0 : List Int} (h0 : RdSU 145 M v0 c0) {v1 : Value} {c1 : List Int} (h1 : RdSU 145 M v1 c1) (b0 : c0.length ≤ 1000000000) (b1 : c1.length ≤ 1000000000)  :
    Pu Tryz.prog (.func (.func 193) #[] #[]) M [v0, .iface 116 v1] (fun r M' => (∃ p, r = .iface 116 p ∧ RdSU 145 M' p ((c0).filter (fun z => decide (z ∉ c1))))) := by
  refine Pu_enter Tryz.func193 rfl Tryz.ntmps193 rfl Tryz.call193 ?_
  intro a w M1 H hM1 S E
  replace h0 := h0.le hM1
  replace h1 := h1.le hM1
  have hcl0 := card_le c0
  have hcl1 := card_le c1
  refine WP_seq ?_
  refine WP_region ?_
  refine S_v E rfl (R_assign E rfl) rfl ?_
  clear E a; intro a E
  refine WL_nil ?_
  refine T_n ?_
  refine WP_seq ?_
  refine WP_region ?_
  refine S_v E rfl (R_move E rfl) rfl ?_
  clear E a; intro a E
  refine S_v E rfl (R_assert E rfl Tryz.underlying116 (by intro z hz; cases hz)) rfl ?_
  clear E a; intro a E
  refine S_v E rfl (R_assign E rfl) rfl ?_
  clear E a; intro a E
  refine WL_nil ?_
  refine T_n ?_
  refine WP_seq ?_
  refine WP_region ?_
  refine S_v E rfl (R_move E rfl) rfl ?_
  clear E a; intro a E
  refine S_x (X_pu E S rfl rfl rfl (U_Cardinality h0 (by first | assumption | omega)) (Hp.le.refl _) ?_)
  clear E a S; rintro a _ w M_1 hM_1 rfl S E
  replace h0 := h0.le hM_1
  replace h1 := h1.le hM_1
  refine S_x (X_makeMapR E S rfl MT145 rfl ?_)
  clear E a S; rintro a w b_2 E S
  replace S : St w M_1 (OwnS b_2 ([] : List Int) :: _) := S
  refine S_x (X_alloc (cs := #[.map none]) E S rfl Tryz.zeroValue145 rfl ?_)
  clear E a S; rintro a w b_3 E S
  refine S_x0 (X_store E S rfl rfl (Tryz.sizeOf145 _) rfl ?_)
  clear E a S; rintro a w E S
  refine WL_nil ?_
  refine T_n ?_
  refine WP_seq ?_
  refine WP_seq ?_
  refine WP_region ?_
  refine S_v E rfl (R_move E rfl) rfl ?_
  clear E a; intro a E
  have hset := h0
  obtain ⟨sb0, sm0, sq0, se0, shb0, shm0, shn0, shq0⟩ := hset
  have shq0l : sq0.length ≤ c0.length := nodup_len shn0 fun z hz => (shq0 z).1 hz
  refine S_v E rfl (R_nilCheck E rfl se0) rfl ?_
  clear E a; intro a E
  refine S_v E rfl (R_loadM E (congrArg some se0) Tryz.isAgg145 S.imm (cellM_box shb0)) rfl ?_
  clear E a; intro a E
  refine S_x (X_range E S rfl MT145 shm0 rfl ?_)
  clear E a S; rintro a w i_4 es_5 ck_6 E hf_7 S
  replace S : St w M_1 (ItO sm0 es_5 ck_6 i_4 (Sl.encS ([] : List Int)) :: _) := S
  refine WL_nil ?_
  refine T_n ?_
  refine WP_block ?_
  replace S := S.front2
  replace S := S.front1
  replace S := S.front1
  replace S := S.reM (L' := (Sl.encS (addsL [] (([]).filter (fun z => decide (z ∉ c1)))))) (congrArg Sl.encS (show ([] : List Int) = (addsL [] (([]).filter (fun z => decide (z ∉ c1)))) by (first | rfl | (simp [addsL_snoc]; done) | (simp [addsL_snoc, List.filter_append, *]; done))))
  replace S := S.front1
  replace S := S.reIt (p' := (Sl.encS [])) (congrArg Sl.encS (show ([] : List Int) = [] by (first | rfl | (simp [addsL_snoc]; done) | (simp [addsL_snoc, List.filter_append, *]; done))))
  refine WP_loop (γ := List Int) (fun (p : List Int) a w => ∃ (M_8 : Hp), Hp.le M_1 M_8 ∧ St w M_8 (ItO sm0 es_5 ck_6 i_4 (Sl.encS p) :: OwnS b_2 (addsL [] ((p).filter (fun z => decide (z ∉ c1)))) :: blk b_3 (.cells #[.map (some b_2)] 145) :: H) ∧ Env a 28 [] [(5, v1), (6, .pointer (some ⟨b_3, 0, none⟩)), (16, .pointer (some ⟨i_4, 0, none⟩))] ∧ (p.Nodup) ∧ (∀ z ∈ p, z ∈ sq0) ∧ (p.length ≤ sq0.length)) (fun p => sq0.length - p.length) [] ⟨M_1, Hp.le.refl _, S, E.keep ⟨rfl, rfl, rfl, trivial⟩, (by simp), (by simp), (by simp)⟩ ?_
  try clear E
  try clear S
  try clear a
  try clear w
  rintro p a w ⟨M_8, hM_8, S, E, hL0_0, hL0_1, hL0_2⟩
  replace h0 := h0.le hM_8
  replace h1 := h1.le hM_8
  replace shb0 := hM_8.2 _ _ shb0
  replace shm0 := shm0.le hM_8
  replace hf_7 := hf_7.le hM_8
  refine WP_seq ?_
  refine WP_region ?_
  refine S_x (X_nextS E S rfl hf_7 rfl (by assumption) (by assumption) ?_ ?_)
  · clear E a S; rintro a E hpm_9 S
    refine S_v E rfl (R_extract E rfl rfl) rfl ?_
    clear E a; intro a E
    refine WL_nil ?_
    refine T_n ?_
    refine WP_seq ?_
    refine WP_condF E rfl rfl ?_
    refine WP_exit ?_
    refine T_x ?_
    refine T_x ?_
    refine B_x ?_
    refine T_n ?_
    refine WP_seq ?_
    refine WP_region ?_
    replace S := S.front1
    have S0 := S; clear S
    obtain ⟨M_10, hM_10, hm_11, S⟩ := S0.freezeM
    clear S0
    replace h0 := h0.le hM_10
    replace h1 := h1.le hM_10
    replace shb0 := hM_10.2 _ _ shb0
    replace shm0 := shm0.le hM_10
    replace hf_7 := hf_7.le hM_10
    replace S := S.front1
    have S0 := S; clear S
    obtain ⟨M_12, hM_12, hb_13, S⟩ := S0.freezeB
    clear S0
    replace h0 := h0.le hM_12
    replace h1 := h1.le hM_12
    replace shb0 := hM_12.2 _ _ shb0
    replace shm0 := shm0.le hM_12
    replace hf_7 := hf_7.le hM_12
    replace hm_11 := hm_11.le hM_12
    refine S_v E rfl (R_ifaceP E rfl Tryz.underlying116) rfl ?_
    clear E a; intro a E
    refine S_v E rfl (R_assign E rfl) rfl ?_
    clear E a; intro a E
    refine WL_nil ?_
    refine T_n ?_
    refine WP_ret ?_
    exact F_ret1 E Tryz.results193 rfl ⟨_, rfl, M_12, (hM_1.trans (hM_8.trans (hM_10.trans hM_12))), ⟨_, rfl, ⟨_, _, (addsL [] ((p).filter (fun z => decide (z ∉ c1)))), rfl, hb_13, hm_11, (by first | assumption | exact addsL_nodup _ _ List.nodup_nil | exact addsL_nodup _ _ (addsL_nodup _ _ List.nodup_nil)), (by (intro x; have ep := (List.Perm.mem_iff (a := x) (show p.Perm sq0 by first | assumption | (exact List.Perm.symm (by assumption)))).trans (shq0 x); simp only [mem_addsL, List.not_mem_nil, false_or, List.mem_append, List.mem_filter, decide_eq_true_eq, List.nil_append]; simp only [ep]))⟩⟩, S.drop⟩
  · clear E a S w; rintro a w k_14 E hk_15 hk_15n hk_15l S
    refine S_v E rfl (R_extract E rfl rfl) rfl ?_
    clear E a; intro a E
    refine WL_nil ?_
    refine T_n ?_
    refine WP_seq ?_
    refine WP_condT E rfl rfl ?_
    refine WP_skip ?_
    refine T_n ?_
    refine WP_block ?_
    refine WP_seq ?_
    refine WP_region ?_
    refine S_v E rfl (R_entry (k := k_14) (v := .agg #[]) E (by have S1 := S; simp only [Sl.encS, List.map_append, List.map_cons, List.map_nil] at S1; exact S1) hf_7 rfl) rfl ?_
    clear E a; intro a E
    refine S_v E rfl (R_extract E rfl rfl) rfl ?_
    clear E a; intro a E
    refine S_v E rfl (R_assign E rfl) rfl ?_
    clear E a; intro a E
    refine WL_nil ?_
    refine T_n ?_
    refine WP_seq ?_
    refine WP_region ?_
    refine S_v E rfl (R_move E rfl) rfl ?_
    clear E a; intro a E
    refine S_v E rfl (R_move E rfl) rfl ?_
    clear E a; intro a E
    refine S_x (X_pu E S rfl rfl rfl (U_contains h1 (by first | assumption | omega)) (Hp.le.refl _) ?_)
    clear E a S; rintro a _ w M_16 hM_16 rfl S E
    replace h0 := h0.le hM_16
    replace h1 := h1.le hM_16
    replace shb0 := hM_16.2 _ _ shb0
    replace shm0 := shm0.le hM_16
    replace hf_7 := hf_7.le hM_16
    refine S_v E rfl (R_not E rfl) rfl ?_
    clear E a; intro a E
    refine WL_nil ?_
    refine T_n ?_
    refine WP_cond E rfl (fun hc_17 => ?_) (fun hc_17 => ?_)
    · refine WP_region ?_
      refine S_v E rfl (R_move E rfl) rfl ?_
      clear E a; intro a E
      replace S := S.front1
      replace S := S.front2
      refine S_x (X_sp (p := [blk b_3 (.cells #[.map (some b_2)] 145), OwnS b_2 (addsL [] ((p).filter (fun z => decide (z ∉ c1))))]) E S rfl rfl rfl (U_add) (Hp.le.refl _) ?_)
      clear E a S; rintro a _ w M_18 _ hM_18 ⟨rfl, rfl⟩ S E
      replace S : St w M_18 (blk b_3 (.cells #[.map (some b_2)] 145) :: OwnS b_2 (addS (addsL [] ((p).filter (fun z => decide (z ∉ c1)))) k_14) :: ItO sm0 es_5 ck_6 i_4 (Sl.encS (p ++ [k_14])) :: H) := S
      replace h0 := h0.le hM_18
      replace h1 := h1.le hM_18
      replace shb0 := hM_18.2 _ _ shb0
      replace shm0 := shm0.le hM_18
      replace hf_7 := hf_7.le hM_18
      refine WL_nil ?_
      refine B_n ?_
      refine T_n ?_
      replace S := S.front1
      replace S := S.front2
      replace S := S.front1
      replace S := S.reM (L' := (Sl.encS (addsL [] (((p ++ [k_14])).filter (fun z => decide (z ∉ c1)))))) (congrArg Sl.encS (show addS (addsL [] ((p).filter (fun z => decide (z ∉ c1)))) k_14 = (addsL [] (((p ++ [k_14])).filter (fun z => decide (z ∉ c1)))) by (first | rfl | (simp [addsL_snoc]; done) | (simp [addsL_snoc, List.filter_append, *]; done))))
      replace S := S.front1
      replace S := S.reIt (p' := (Sl.encS (p ++ [k_14]))) (congrArg Sl.encS (show p ++ [k_14] = (p ++ [k_14]) by (first | rfl | (simp [addsL_snoc]; done) | (simp [addsL_snoc, List.filter_append, *]; done))))
      exact ⟨(p ++ [k_14]), ⟨M_18, (hM_8.trans (hM_16.trans hM_18)), S, E.keep ⟨rfl, rfl, rfl, trivial⟩, (by exact snocN (by assumption) (by assumption)), (by exact snocS (by assumption) (by assumption)), (by simp; omega)⟩, (by simp; omega)⟩
    · refine WP_skip ?_
      refine B_n ?_
      refine T_n ?_
      replace S := S.front1
      replace S := S.reM (L' := (Sl.encS (addsL [] (((p ++ [k_14])).filter (fun z => decide (z ∉ c1)))))) (congrArg Sl.encS (show (addsL [] ((p).filter (fun z => decide (z ∉ c1)))) = (addsL [] (((p ++ [k_14])).filter (fun z => decide (z ∉ c1)))) by (first | rfl | (simp [addsL_snoc]; done) | (simp [addsL_snoc, List.filter_append, *]; done))))
      replace S := S.front1
      replace S := S.reIt (p' := (Sl.encS (p ++ [k_14]))) (congrArg Sl.encS (show p ++ [k_14] = (p ++ [k_14]) by (first | rfl | (simp [addsL_snoc]; done) | (simp [addsL_snoc, List.filter_append, *]; done))))
      exact ⟨(p ++ [k_14]), ⟨M_16, (hM_8.trans hM_16), S, E.keep ⟨rfl, rfl, rfl, trivial⟩, (by exact snocN (by assumption) (by assumption)), (by exact snocS (by assumption) (by assumption)), (by simp; omega)⟩, (by simp; omega)⟩

set_option maxRecDepth 100000 in
set_option maxHeartbeats 4000000 in
theorem U_SetDifference {M : Hp} {v1 v2 : Value} {l1 l2 : List Int} (h1 : RdI M v1 l1) (h2 : RdI M v2 l2)(hb1 : l1.length ≤ 100000000) (hb2 : l2.length ≤ 100000000)  :
    Pu Tryz.prog (.func (.func 16) #[] #[]) M [.bool false, v1, v2] (fun r M' => RdI M' r (suL ((l1).filter (fun z => decide (z ∉ l2))))) := by
  refine Pu_enter Tryz.func16 rfl Tryz.ntmps16 rfl Tryz.call16 ?_
  intro a w M1 H hM1 S E
  replace h1 := h1.le hM1
  replace h2 := h2.le hM1
  have b1 := h1.bound
  have b2 := h2.bound
  refine WP_seq ?_
  refine WP_region ?_
  refine S_v E rfl (R_assign E rfl) rfl ?_
  clear E a; intro a E
  refine WL_nil ?_
  refine T_n ?_
  refine WP_seq ?_
  refine WP_region ?_
  refine S_v E rfl (R_move E rfl) rfl ?_
  clear E a; intro a E
  refine S_v E rfl (R_move E rfl) rfl ?_
  clear E a; intro a E
  refine S_v E rfl (R_move E rfl) rfl ?_
  clear E a; intro a E
  refine S_x (X_pu E S rfl rfl rfl (U_twoSets h1 h2 (by first | assumption | omega) (by first | assumption | omega)) (Hp.le.refl _) ?_)
  clear E a S; rintro a _ w M_1 hM_1 ⟨_, _, rfl, ⟨v_2, rfl, hv_2⟩, ⟨v_3, rfl, hv_3⟩⟩ S E
  replace h1 := h1.le hM_1
  replace h2 := h2.le hM_1
  refine S_v E rfl (R_move E rfl) rfl ?_
  clear E a; intro a E
  refine S_v E rfl (R_extract E rfl rfl) rfl ?_
  clear E a; intro a E
  refine S_v E rfl (R_extract E rfl rfl) rfl ?_
  clear E a; intro a E
  refine S_v E rfl (R_assign E rfl) rfl ?_
  clear E a; intro a E
  refine S_v E rfl (R_assign E rfl) rfl ?_
  clear E a; intro a E
  refine WL_nil ?_
  refine T_n ?_
  refine WP_seq ?_
  refine WP_region ?_
  refine S_v E rfl (R_move E rfl) rfl ?_
  clear E a; intro a E
  refine S_v E rfl (R_move E rfl) rfl ?_
  clear E a; intro a E
  refine S_x (X_puI E S rfl rfl rfl (meth_116_Difference _ _) Tryz.call193 (U_Difference hv_2 hv_3 (by first | assumption | omega) (by first | assumption | omega)) (Hp.le.refl _) ?_)
  clear E a S; rintro a _ w M_4 hM_4 ⟨v_5, rfl, hv_5⟩ S E
  replace h1 := h1.le hM_4
  replace h2 := h2.le hM_4
  replace hv_2 := hv_2.le hM_4
  replace hv_3 := hv_3.le hM_4
  refine S_x (X_pu E S rfl rfl rfl (U_Sorted hv_5 (by first | assumption | omega | (simp only [List.length_append]; omega) | exact Nat.le_trans (List.length_filter_le _ _) (by omega) | (rw [List.length_append]; have h8 := List.length_filter_le (fun z => decide (z ∉ l2)) l1; have h9 := List.length_filter_le (fun z => decide (z ∉ l1)) l2; omega))) (Hp.le.refl _) ?_)
  clear E a S; rintro a v_7 w M_6 hM_6 hv_7 S E
  replace h1 := h1.le hM_6
  replace h2 := h2.le hM_6
  replace hv_2 := hv_2.le hM_6
  replace hv_3 := hv_3.le hM_6
  replace hv_5 := hv_5.le hM_6
  refine S_v E rfl (R_assign E rfl) rfl ?_
  clear E a; intro a E
  refine WL_nil ?_
  refine T_n ?_
  refine WP_ret ?_
  exact F_ret1 E Tryz.results16 rfl ⟨_, rfl, M_6, (hM_1.trans (hM_4.trans hM_6)), hv_7, S⟩

set_option maxRecDepth 100000 in
set_option maxHeartbeats 4000000 in
theorem S_Difference {M : Hp} {p0 : Nat} {v0 : Value} {c0 : List Int} (h0 : RdSU 145 M v0 c0) {p1 : Nat} {v1 : Value} {c1 : List Int} (h1 : RdSU 145 M v1 c1) (b0 : c0.length ≤ 1000000000) (b1 : c1.length ≤ 1000000000)  :
    Sp Tryz.prog (.func (.func 168) #[] #[]) M [.pointer (some ⟨p0, 0, none⟩), .iface 114 (.pointer (some ⟨p1, 0, none⟩))] [blk p0 (.cells #[.int .i32 0, .int .u32 0, .int .u32 0, .int .u32 0, .int .i32 0, .int .i32 0, v0] 144), blk p1 (.cells #[.int .i32 0, .int .u32 0, .int .u32 0, .int .u32 0, .int .i32 0, .int .i32 0, v1] 144)] (fun r M' C' => ∃ p_0 v_0, r = .iface 114 (.pointer (some ⟨p_0, 0, none⟩)) ∧ C' = [blk p0 (.cells #[.int .i32 0, .int .u32 0, .int .u32 0, .int .u32 0, .int .i32 0, .int .i32 0, v0] 144), blk p1 (.cells #[.int .i32 0, .int .u32 0, .int .u32 0, .int .u32 0, .int .i32 0, .int .i32 0, v1] 144), blk p_0 (.cells #[.int .i32 0, .int .u32 0, .int .u32 0, .int .u32 0, .int .i32 0, .int .i32 0, v_0] 144)] ∧ (RdSU 145 M' v_0 ((c0).filter (fun z => decide (z ∉ c1))))) := by
  refine Sp_enter Tryz.func168 rfl Tryz.ntmps168 rfl Tryz.call168 ?_
  intro a w M1 H hM1 S E
  replace S : St w M1 (blk p0 (.cells #[.int .i32 0, .int .u32 0, .int .u32 0, .int .u32 0, .int .i32 0, .int .i32 0, v0] 144) :: blk p1 (.cells #[.int .i32 0, .int .u32 0, .int .u32 0, .int .u32 0, .int .i32 0, .int .i32 0, v1] 144) :: _) := S
  replace h0 := h0.le hM1
  replace h1 := h1.le hM1
  have hset := h0
  obtain ⟨sb0, sm0, sq0, se0, shb0, shm0, shn0, shq0⟩ := hset
  have shq0l : sq0.length ≤ c0.length := nodup_len shn0 fun z hz => (shq0 z).1 hz
  have hset := h1
  obtain ⟨sb1, sm1, sq1, se1, shb1, shm1, shn1, shq1⟩ := hset
  have shq1l : sq1.length ≤ c1.length := nodup_len shn1 fun z hz => (shq1 z).1 hz
  refine WP_seq ?_
  refine WP_region ?_
  refine S_v E rfl (R_assign E rfl) rfl ?_
  clear E a; intro a E
  refine WL_nil ?_
  refine T_n ?_
  refine WP_seq ?_
  refine WP_region ?_
  refine S_v E rfl (R_move E rfl) rfl ?_
  clear E a; intro a E
  refine S_v E rfl (R_assert E rfl Tryz.underlying114 (by intro z hz; cases hz)) rfl ?_
  clear E a; intro a E
  refine S_v E rfl (R_assign E rfl) rfl ?_
  clear E a; intro a E
  refine WL_nil ?_
  refine T_n ?_
  refine WP_seq ?_
  refine WP_region ?_
  refine S_v E rfl (R_move E rfl) rfl ?_
  clear E a; intro a E
  refine S_v E rfl (R_nilCheck E rfl rfl) rfl ?_
  clear E a; intro a E
  refine S_v E rfl (R_fieldAddr E rfl (FA144_0 _)) rfl ?_
  clear E a; intro a E
  replace S : St w M1 (LK p0 144 0 v0 :: _) := S
  refine S_x (X_sp (p := [LK p0 144 0 v0]) E S rfl rfl rfl (rlock_sp Tryz.rwRLib (T := 144) (n := 0) (by decide) (by decide)) (Hp.le.refl _) ?_)
  clear E a S; rintro a _ w M_1 _ hM_1 ⟨rfl, rfl⟩ S E
  replace S : St w M_1 (blk p0 (.cells #[.int .i32 0, .int .u32 0, .int .u32 0, .int .u32 0, .int .i32 1, .int .i32 0, v0] 144) :: blk p1 (.cells #[.int .i32 0, .int .u32 0, .int .u32 0, .int .u32 0, .int .i32 0, .int .i32 0, v1] 144) :: H) := S
  replace h0 := h0.le hM_1
  replace h1 := h1.le hM_1
  replace shb0 := hM_1.2 _ _ shb0
  replace shm0 := shm0.le hM_1
  replace shb1 := hM_1.2 _ _ shb1
  replace shm1 := shm1.le hM_1
  refine WL_nil ?_
  refine T_n ?_
  refine WP_seq ?_
  refine WP_region ?_
  refine S_v E rfl (R_move E rfl) rfl ?_
  clear E a; intro a E
  refine S_v E rfl (R_nilCheck E rfl rfl) rfl ?_
  clear E a; intro a E
  refine S_v E rfl (R_fieldAddr E rfl (FA144_0 _)) rfl ?_
  clear E a; intro a E
  replace S := S.front1
  replace S : St w M_1 (LK p1 144 0 v1 :: _) := S
  refine S_x (X_sp (p := [LK p1 144 0 v1]) E S rfl rfl rfl (rlock_sp Tryz.rwRLib (T := 144) (n := 0) (by decide) (by decide)) (Hp.le.refl _) ?_)
  clear E a S; rintro a _ w M_2 _ hM_2 ⟨rfl, rfl⟩ S E
  replace S : St w M_2 (blk p1 (.cells #[.int .i32 0, .int .u32 0, .int .u32 0, .int .u32 0, .int .i32 1, .int .i32 0, v1] 144) :: blk p0 (.cells #[.int .i32 0, .int .u32 0, .int .u32 0, .int .u32 0, .int .i32 1, .int .i32 0, v0] 144) :: H) := S
  replace h0 := h0.le hM_2
  replace h1 := h1.le hM_2
  replace shb0 := hM_2.2 _ _ shb0
  replace shm0 := shm0.le hM_2
  replace shb1 := hM_2.2 _ _ shb1
  replace shm1 := shm1.le hM_2
  refine WL_nil ?_
  refine T_n ?_
  refine WP_seq ?_
  replace S := S.mono_heap (w' := World.drew _) rfl
  refine WP_drawn (C := fun x w => agree M_2 w ∧ (x = 3 → w.heap[p0]? = some (.cells #[.int .i32 0, .int .u32 0, .int .u32 0, .int .u32 0, .int .i32 1, .int .i32 0, v0] 144)) ∧ (x = 7 → w.heap[p1]? = some (.cells #[.int .i32 0, .int .u32 0, .int .u32 0, .int .u32 0, .int .i32 1, .int .i32 0, v1] 144))) (bf := (fun i => bif Nat.beq i 9 then [3, 7] else [])) [0, 1, 2, 3, 4, 5, 6, 7, 8, 10, 11] [0, 1, 2, 3, 4, 5, 6, 7, 8, 9, 10, 11] Tryz.mixed (by kernel_rfl) (fun x hq => ⟨S.imm, fun _ => (S.mem (.tail _ (.head _))), fun _ => (S.mem (.head _))⟩) ?_
  refine D_v E rfl rfl rfl (fun w hC => (R_move E rfl)) ?_
  clear E a; intro a E
  refine D_v E rfl rfl rfl (fun w hC => (R_nilCheck E rfl rfl)) ?_
  clear E a; intro a E
  refine D_v E rfl rfl rfl (fun w hC => (R_fieldAddr E rfl (FA144_1 _))) ?_
  clear E a; intro a E
  refine D_v E rfl rfl rfl (fun w hC => (R_load E rfl (Tryz.isAgg116 _) (cell_blkf (hC.2.1 rfl) rfl))) ?_
  clear E a; intro a E
  refine D_v E rfl rfl rfl (fun w hC => (R_move E rfl)) ?_
  clear E a; intro a E
  refine D_v E rfl rfl rfl (fun w hC => (R_nilCheck E rfl rfl)) ?_
  clear E a; intro a E
  refine D_v E rfl rfl rfl (fun w hC => (R_fieldAddr E rfl (FA144_1 _))) ?_
  clear E a; intro a E
  refine D_v E rfl rfl rfl (fun w hC => (R_load E rfl (Tryz.isAgg116 _) (cell_blkf (hC.2.2 rfl) rfl))) ?_
  clear E a; intro a E
  refine D_v E rfl rfl rfl (fun w hC => (R_ifaceP E rfl Tryz.underlying116)) ?_
  clear E a; intro a E
  refine D_x rfl rfl rfl (X_pu E S rfl rfl rfl (U_Difference h0 h1 (by first | assumption | omega) (by first | assumption | omega)) (Hp.le.refl _) ?_)
  clear E a S; rintro a _ w M_3 hM_3 ⟨v_4, rfl, hv_4⟩ S E
  replace h0 := h0.le hM_3
  replace h1 := h1.le hM_3
  replace shb0 := hM_3.2 _ _ shb0
  replace shm0 := shm0.le hM_3
  replace shb1 := hM_3.2 _ _ shb1
  replace shm1 := shm1.le hM_3
  refine ⟨fun x hq hb => ⟨(agree_le hM_3 S.imm), (fun e => by subst e; exact absurd hb (by decide)), (fun e => by subst e; exact absurd hb (by decide))⟩, ?_⟩
  refine D_v E rfl rfl rfl (fun w hC => (R_assert E rfl Tryz.underlying116 (by intro z hz; cases hz))) ?_
  clear E a; intro a E
  refine D_v E rfl rfl rfl (fun w hC => (R_assign E rfl)) ?_
  clear E a; intro a E
  refine D_end (NoP_n ?_)
  refine T_n ?_
  refine WP_seq ?_
  refine WP_region ?_
  refine S_v E rfl (R_move E rfl) rfl ?_
  clear E a; intro a E
  have hset := hv_4
  obtain ⟨b_5, m_6, q_7, e_8, hb_9, hm_10, hn_11, hq_12⟩ := hset
  have hq_12l : q_7.length ≤ ((c0).filter (fun z => decide (z ∉ c1))).length := nodup_len hn_11 fun z hz => (hq_12 z).1 hz
  refine S_v E rfl (R_build (u := .agg #[.int .i32 0, .int .u32 0, .int .u32 0, .int .u32 0, .int .i32 0, .int .i32 0, v_4]) (vs := [v_4]) E rfl (fun w => by rw [e_8]; exact BLK144 _ w)) rfl ?_
  clear E a; intro a E
  refine S_x (X_box (cs := #[.int .i32 0, .int .u32 0, .int .u32 0, .int .u32 0, .int .i32 0, .int .i32 0, v_4]) E S rfl rfl rfl ?_)
  clear E a S; rintro a w b_13 E S
  refine S_v E rfl (R_assign E rfl) rfl ?_
  clear E a; intro a E
  refine WL_nil ?_
  refine T_n ?_
  refine WP_seq ?_
  refine WP_region ?_
  refine S_v E rfl (R_move E rfl) rfl ?_
  clear E a; intro a E
  refine S_v E rfl (R_nilCheck E rfl rfl) rfl ?_
  clear E a; intro a E
  refine S_v E rfl (R_fieldAddr E rfl (FA144_0 _)) rfl ?_
  clear E a; intro a E
  replace S := S.front2
  replace S : St w M_3 (LK p0 144 (0 + 1) v0 :: _) := S
  refine S_x (X_sp (p := [LK p0 144 (0 + 1) v0]) E S rfl rfl rfl (runlock_sp Tryz.rwRLib (T := 144) (n := 0) (by decide) (by decide)) (Hp.le.refl _) ?_)
  clear E a S; rintro a _ w M_14 _ hM_14 ⟨rfl, rfl⟩ S E
  replace S : St w M_14 (blk p0 (.cells #[.int .i32 0, .int .u32 0, .int .u32 0, .int .u32 0, .int .i32 0, .int .i32 0, v0] 144) :: blk b_13 (.cells #[.int .i32 0, .int .u32 0, .int .u32 0, .int .u32 0, .int .i32 0, .int .i32 0, v_4] 144) :: blk p1 (.cells #[.int .i32 0, .int .u32 0, .int .u32 0, .int .u32 0, .int .i32 1, .int .i32 0, v1] 144) :: H) := S
  replace h0 := h0.le hM_14
  replace h1 := h1.le hM_14
  replace shb0 := hM_14.2 _ _ shb0
  replace shm0 := shm0.le hM_14
  replace shb1 := hM_14.2 _ _ shb1
  replace shm1 := shm1.le hM_14
  replace hv_4 := hv_4.le hM_14
  replace hb_9 := hM_14.2 _ _ hb_9
  replace hm_10 := hm_10.le hM_14
  refine WL_nil ?_
  refine T_n ?_
  refine WP_seq ?_
  refine WP_region ?_
  refine S_v E rfl (R_move E rfl) rfl ?_
  clear E a; intro a E
  refine S_v E rfl (R_nilCheck E rfl rfl) rfl ?_
  clear E a; intro a E
  refine S_v E rfl (R_fieldAddr E rfl (FA144_0 _)) rfl ?_
  clear E a; intro a E
  replace S := S.front2
  replace S : St w M_14 (LK p1 144 (0 + 1) v1 :: _) := S
  refine S_x (X_sp (p := [LK p1 144 (0 + 1) v1]) E S rfl rfl rfl (runlock_sp Tryz.rwRLib (T := 144) (n := 0) (by decide) (by decide)) (Hp.le.refl _) ?_)
  clear E a S; rintro a _ w M_15 _ hM_15 ⟨rfl, rfl⟩ S E
  replace S : St w M_15 (blk p1 (.cells #[.int .i32 0, .int .u32 0, .int .u32 0, .int .u32 0, .int .i32 0, .int .i32 0, v1] 144) :: blk p0 (.cells #[.int .i32 0, .int .u32 0, .int .u32 0, .int .u32 0, .int .i32 0, .int .i32 0, v0] 144) :: blk b_13 (.cells #[.int .i32 0, .int .u32 0, .int .u32 0, .int .u32 0, .int .i32 0, .int .i32 0, v_4] 144) :: H) := S
  replace h0 := h0.le hM_15
  replace h1 := h1.le hM_15
  replace shb0 := hM_15.2 _ _ shb0
  replace shm0 := shm0.le hM_15
  replace shb1 := hM_15.2 _ _ shb1
  replace shm1 := shm1.le hM_15
  replace hv_4 := hv_4.le hM_15
  replace hb_9 := hM_15.2 _ _ hb_9
  replace hm_10 := hm_10.le hM_15
  refine WL_nil ?_
  refine T_n ?_
  refine WP_seq ?_
  refine WP_region ?_
  refine S_v E rfl (R_move E rfl) rfl ?_
  clear E a; intro a E
  refine S_v E rfl (R_ifaceP E rfl Tryz.underlying114) rfl ?_
  clear E a; intro a E
  refine S_v E rfl (R_assign E rfl) rfl ?_
  clear E a; intro a E
  refine WL_nil ?_
  refine T_n ?_
  refine WP_ret ?_
  replace S := S.front2
  replace S := S.front1
  replace S := S.front2
  exact F_ret1 E Tryz.results168 rfl ⟨_, rfl, M_15, _, (hM_1.trans (hM_2.trans (hM_3.trans (hM_14.trans hM_15)))), ⟨_, _, rfl, rfl, hv_4⟩, S⟩

set_option maxRecDepth 100000 in
set_option maxHeartbeats 4000000 in
theorem S_SetDifference {M : Hp} {v1 v2 : Value} {l1 l2 : List Int} (h1 : RdI M v1 l1) (h2 : RdI M v2 l2)(hb1 : l1.length ≤ 100000000) (hb2 : l2.length ≤ 100000000)  :
    Pu Tryz.prog (.func (.func 16) #[] #[]) M [.bool true, v1, v2] (fun r M' => RdI M' r (suL ((l1).filter (fun z => decide (z ∉ l2))))) := by
  refine Pu_enter Tryz.func16 rfl Tryz.ntmps16 rfl Tryz.call16 ?_
  intro a w M1 H hM1 S E
  replace h1 := h1.le hM1
  replace h2 := h2.le hM1
  have b1 := h1.bound
  have b2 := h2.bound
  refine WP_seq ?_
  refine WP_region ?_
  refine S_v E rfl (R_assign E rfl) rfl ?_
  clear E a; intro a E
  refine WL_nil ?_
  refine T_n ?_
  refine WP_seq ?_
  refine WP_region ?_
  refine S_v E rfl (R_move E rfl) rfl ?_
  clear E a; intro a E
  refine S_v E rfl (R_move E rfl) rfl ?_
  clear E a; intro a E
  refine S_v E rfl (R_move E rfl) rfl ?_
  clear E a; intro a E
  refine S_x (X_sp (p := []) E S rfl rfl rfl (S_twoSets h1 h2 (by first | assumption | omega) (by first | assumption | omega)) (Hp.le.refl _) ?_)
  clear E a S; rintro a _ w M_1 _ hM_1 ⟨p_3, v_4, p_5, v_6, rfl, rfl, hv_4, hv_6⟩ S E
  replace S : St w M_1 (blk p_3 (.cells #[.int .i32 0, .int .u32 0, .int .u32 0, .int .u32 0, .int .i32 0, .int .i32 0, v_4] 144) :: blk p_5 (.cells #[.int .i32 0, .int .u32 0, .int .u32 0, .int .u32 0, .int .i32 0, .int .i32 0, v_6] 144) :: H) := S
  replace h1 := h1.le hM_1
  replace h2 := h2.le hM_1
  refine S_v E rfl (R_move E rfl) rfl ?_
  clear E a; intro a E
  refine S_v E rfl (R_extract E rfl rfl) rfl ?_
  clear E a; intro a E
  refine S_v E rfl (R_extract E rfl rfl) rfl ?_
  clear E a; intro a E
  refine S_v E rfl (R_assign E rfl) rfl ?_
  clear E a; intro a E
  refine S_v E rfl (R_assign E rfl) rfl ?_
  clear E a; intro a E
  refine WL_nil ?_
  refine T_n ?_
  refine WP_seq ?_
  refine WP_region ?_
  refine S_v E rfl (R_move E rfl) rfl ?_
  clear E a; intro a E
  refine S_v E rfl (R_move E rfl) rfl ?_
  clear E a; intro a E
  replace S := S.front1
  replace S := S.front1
  refine S_x (X_spI (p := [blk p_3 (.cells #[.int .i32 0, .int .u32 0, .int .u32 0, .int .u32 0, .int .i32 0, .int .i32 0, v_4] 144), blk p_5 (.cells #[.int .i32 0, .int .u32 0, .int .u32 0, .int .u32 0, .int .i32 0, .int .i32 0, v_6] 144)]) E S rfl rfl rfl (meth_114_Difference _ _) Tryz.call168 (S_Difference hv_4 hv_6 (by first | assumption | omega) (by first | assumption | omega)) (Hp.le.refl _) ?_)
  clear E a S; rintro a _ w M_7 _ hM_7 ⟨p_9, v_10, rfl, rfl, hv_10⟩ S E
  replace S : St w M_7 (blk p_3 (.cells #[.int .i32 0, .int .u32 0, .int .u32 0, .int .u32 0, .int .i32 0, .int .i32 0, v_4] 144) :: blk p_5 (.cells #[.int .i32 0, .int .u32 0, .int .u32 0, .int .u32 0, .int .i32 0, .int .i32 0, v_6] 144) :: blk p_9 (.cells #[.int .i32 0, .int .u32 0, .int .u32 0, .int .u32 0, .int .i32 0, .int .i32 0, v_10] 144) :: H) := S
  replace h1 := h1.le hM_7
  replace h2 := h2.le hM_7
  replace hv_4 := hv_4.le hM_7
  replace hv_6 := hv_6.le hM_7
  replace S := S.front2
  refine S_x (X_sp (p := [blk p_9 (.cells #[.int .i32 0, .int .u32 0, .int .u32 0, .int .u32 0, .int .i32 0, .int .i32 0, v_10] 144)]) E S rfl rfl rfl (S_Sorted hv_10 (by first | assumption | omega | (simp only [List.length_append]; omega) | exact Nat.le_trans (List.length_filter_le _ _) (by omega) | (rw [List.length_append]; have h8 := List.length_filter_le (fun z => decide (z ∉ l2)) l1; have h9 := List.length_filter_le (fun z => decide (z ∉ l1)) l2; omega))) (Hp.le.refl _) ?_)
  clear E a S; rintro a v_13 w M_11 _ hM_11 ⟨rfl, hv_13⟩ S E
  replace S : St w M_11 (blk p_9 (.cells #[.int .i32 0, .int .u32 0, .int .u32 0, .int .u32 0, .int .i32 0, .int .i32 0, v_10] 144) :: blk p_3 (.cells #[.int .i32 0, .int .u32 0, .int .u32 0, .int .u32 0, .int .i32 0, .int .i32 0, v_4] 144) :: blk p_5 (.cells #[.int .i32 0, .int .u32 0, .int .u32 0, .int .u32 0, .int .i32 0, .int .i32 0, v_6] 144) :: H) := S
  replace h1 := h1.le hM_11
  replace h2 := h2.le hM_11
  replace hv_4 := hv_4.le hM_11
  replace hv_6 := hv_6.le hM_11
  replace hv_10 := hv_10.le hM_11
  refine S_v E rfl (R_assign E rfl) rfl ?_
  clear E a; intro a E
  refine WL_nil ?_
  refine T_n ?_
  refine WP_ret ?_
  exact F_ret1 E Tryz.results16 rfl ⟨_, rfl, M_11, (hM_1.trans (hM_7.trans hM_11)), hv_13, S.drop.drop.drop⟩

set_option maxRecDepth 100000 in
set_option maxHeartbeats 4000000 in
theorem impl_SetDifference {M : Hp} {x0 : Bool} {v1 v2 : Value} {l1 l2 : List Int} (h1 : RdI M v1 l1) (h2 : RdI M v2 l2)(hb1 : l1.length ≤ 100000000) (hb2 : l2.length ≤ 100000000) :
    Pu Tryz.prog (.func (.func 16) #[] #[]) M [.bool x0, v1, v2] (fun r M' => RdI M' r (suL ((l1).filter (fun z => decide (z ∉ l2))))) := by
  cases x0
  · exact U_SetDifference h1 h2 hb1 hb2
  · exact S_SetDifference h1 h2 hb1 hb2

end Go.Proofs.YtlmpgefhnmfhpaaGreat.wFnSetRelations
