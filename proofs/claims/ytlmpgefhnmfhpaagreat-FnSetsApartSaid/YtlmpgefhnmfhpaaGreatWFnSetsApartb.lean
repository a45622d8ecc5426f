/- Walks through the functions that laws.FnSetsApart reaches: what each computes; no conditions beyond what each theorem states. -/
import Derived.Test.YtlmpgefhnmfhpaaGreatWFnSetsAparta
set_option linter.unusedVariables false
set_option linter.unusedSimpArgs false
namespace Go.Proofs.YtlmpgefhnmfhpaaGreat.wFnSetsApart
open Go Go.Sl
set_option maxRecDepth 100000 in
set_option maxHeartbeats 4000000 in
theorem U_new {M : Hp} {n0 : Nat} (hb0 : n0 ≤ 1000000000000) :
    Sp Tryz.prog (.func (.func 85) #[] #[]) M [.int .i64 ((n0 : Nat) : Int)] [] (fun r M' C' => ∃ b m, r = .pointer (some ⟨b, 0, none⟩) ∧ C' = [blk b (.cells #[.map (some m)] 145), OwnS m []]) := by
  refine Sp_enter Tryz.func85 rfl Tryz.ntmps85 rfl Tryz.call85 ?_
  intro a w M1 H hM1 S E
  refine WP_seq ?_
  refine WP_region ?_
  refine S_v E rfl (R_assign E rfl) rfl ?_
  clear E a; intro a E
  refine WL_nil ?_
  refine T_n ?_
  refine WP_seq ?_
  refine WP_region ?_
  refine S_v E rfl (R_move E rfl) rfl ?_
  clear E a; intro a E
  refine S_x (X_makeMapR E S rfl MT145 rfl ?_)
  clear E a S; rintro a w b_1 E S
  replace S : St w M1 (OwnS b_1 ([] : List Int) :: _) := S
  refine S_x (X_alloc (cs := #[.map none]) E S rfl Tryz.zeroValue145 rfl ?_)
  clear E a S; rintro a w b_2 E S
  refine S_x0 (X_store E S rfl rfl (Tryz.sizeOf145 _) rfl ?_)
  clear E a S; rintro a w E S
  refine WL_nil ?_
  refine T_n ?_
  refine WP_seq ?_
  refine WP_region ?_
  refine S_v E rfl (R_assign E rfl) rfl ?_
  clear E a; intro a E
  refine WL_nil ?_
  refine T_n ?_
  refine WP_ret ?_
  replace S := S.front1
  replace S := S.front1
  exact F_ret1 E Tryz.results85 rfl ⟨_, rfl, M1, _, (Hp.le.refl _), ⟨_, _, rfl, rfl⟩, S⟩

set_option maxRecDepth 100000 in
set_option maxHeartbeats 4000000 in
theorem U_Add {M : Hp} {m9 : Nat} {l9 : List Int} {x0 : Int} :
    Sp Tryz.prog (.func (.func 86) #[] #[]) M [.map (some m9), .int .i64 x0] [OwnS m9 l9] (fun r M' C' => (∃ z, r = .bool z) ∧ C' = [OwnS m9 (addS l9 x0)]) := by
  refine Sp_enter Tryz.func86 rfl Tryz.ntmps86 rfl Tryz.call86 ?_
  intro a w M1 H hM1 S E
  replace S : St w M1 (OwnS m9 l9 :: _) := S
  refine WP_seq ?_
  refine WP_region ?_
  refine S_v E rfl (R_assign E rfl) rfl ?_
  clear E a; intro a E
  refine WL_nil ?_
  refine T_n ?_
  refine WP_seq ?_
  refine WP_region ?_
  refine S_v E rfl (R_move E rfl) rfl ?_
  clear E a; intro a E
  refine S_v E rfl ((R_lenO E S MT145 rfl).trans (by rw [encS_len])) rfl ?_
  clear E a; intro a E
  refine S_v E rfl (R_assign E rfl) rfl ?_
  clear E a; intro a E
  refine WL_nil ?_
  refine T_n ?_
  refine WP_seq ?_
  refine WP_region ?_
  refine S_v E rfl (R_move E rfl) rfl ?_
  clear E a; intro a E
  refine S_v E rfl (R_move E rfl) rfl ?_
  clear E a; intro a E
  refine S_v E rfl (R_build (u := .agg #[]) (vs := []) E rfl (fun w => FB104__  w)) rfl ?_
  clear E a; intro a E
  refine S_x0 (X_updateS E S MT145 rfl rfl rfl ?_)
  clear E a S; rintro a w E S
  refine WL_nil ?_
  refine T_n ?_
  refine WP_seq ?_
  refine WP_region ?_
  refine S_v E rfl (R_move E rfl) rfl ?_
  clear E a; intro a E
  refine S_v E rfl (R_move E rfl) rfl ?_
  clear E a; intro a E
  refine S_v E rfl ((R_lenO E S MT145 rfl).trans (by rw [encS_len])) rfl ?_
  clear E a; intro a E
  refine S_v E rfl (R_neq E rfl rfl) rfl ?_
  clear E a; intro a E
  refine S_v E rfl (R_assign E rfl) rfl ?_
  clear E a; intro a E
  refine WL_nil ?_
  refine T_n ?_
  refine WP_ret ?_
  exact F_ret1 E Tryz.results86 rfl ⟨_, rfl, M1, _, (Hp.le.refl _), ⟨⟨_, rfl⟩, rfl⟩, S⟩

set_option maxRecDepth 100000 in
set_option maxHeartbeats 4000000 in
theorem O_NewThreadUnsafeSet {M : Hp} {v0 : Value} {l0 : List Int} (h0 : RdI M v0 l0)(hb : l0.length ≤ 1000000000) :
    Sp Tryz.prog (.func (.func 59) #[] #[]) M [v0] [] (fun r M' C' => ∃ b_ m_ l_, C' = [blk b_ (.cells #[.map (some m_)] 145), OwnS m_ l_] ∧ r = .iface 116 (.pointer (some ⟨b_, 0, none⟩)) ∧ (l_.Nodup) ∧ (∀ z, z ∈ l_ ↔ z ∈ l0)) := by
  refine Sp_enter Tryz.func59 rfl Tryz.ntmps59 rfl Tryz.call59 ?_
  intro a w M1 H hM1 S E
  replace h0 := h0.le hM1
  have b0 := h0.bound
  refine WP_seq ?_
  refine WP_region ?_
  refine S_v E rfl (R_assign E rfl) rfl ?_
  clear E a; intro a E
  refine WL_nil ?_
  refine T_n ?_
  refine WP_seq ?_
  refine WP_region ?_
  refine S_v E rfl (R_move E rfl) rfl ?_
  clear E a; intro a E
  refine S_v E rfl (R_lenV E rfl T22 h0.len) rfl ?_
  clear E a; intro a E
  refine S_x (X_sp (p := []) E S rfl rfl rfl (U_new (by first | assumption | omega)) (Hp.le.refl _) ?_)
  clear E a S; rintro a _ w M_1 _ hM_1 ⟨b_3, mm_4, rfl, rfl⟩ S E
  replace S : St w M_1 (blk b_3 (.cells #[.map (some mm_4)] 145) :: OwnS mm_4 ([] : List Int) :: H) := S
  replace h0 := h0.le hM_1
  refine S_v E rfl (R_assign E rfl) rfl ?_
  clear E a; intro a E
  refine WL_nil ?_
  refine T_n ?_
  refine WP_seq ?_
  refine WP_seq ?_
  refine WP_region ?_
  refine S_v E rfl (R_move E rfl) rfl ?_
  clear E a; intro a E
  refine S_v E rfl (R_lenV E rfl T22 h0.len) rfl ?_
  clear E a; intro a E
  refine S_v E rfl (R_move E rfl) rfl ?_
  clear E a; intro a E
  refine WL_nil ?_
  refine T_n ?_
  refine WP_block ?_
  replace S := S.front1
  replace S := S.reM (L' := (Sl.encS (addsL [] (l0.take 0)))) (congrArg Sl.encS (show ([] : List Int) = (addsL [] (l0.take 0)) by first | rfl | (simp [addsL]; done) | (rw [List.take_add_one]; simp [*, addsL_snoc]; done)))
  refine WP_loop (γ := Nat) (fun (k : Nat) a w => ∃ (M_5 : Hp), Hp.le M_1 M_5 ∧ St w M_5 (OwnS mm_4 (addsL [] (l0.take k)) :: blk b_3 (.cells #[.map (some mm_4)] 145) :: H) ∧ Env a 23 [] [(3, .pointer (some ⟨b_3, 0, none⟩)), (9, v0), (10, .int .i64 (((l0).length : Nat) : Int)), (11, .int .i64 ((k : Nat) : Int))] ∧ (k ≤ (l0).length)) (fun k => ((l0).length) - k) 0 ⟨M_1, Hp.le.refl _, S, E.keep ⟨rfl, rfl, rfl, rfl, trivial⟩, by ((try clear S); (try clear E); first | assumption | omega | rfl | (simp; done) | (simp_all; done) | (simp [List.take_add_one, *]; done) | grind [List.take_add_one])⟩ ?_
  try clear E
  try clear S
  try clear a
  try clear w
  rintro k a w ⟨M_5, hM_5, S, E, hL0_0⟩
  replace h0 := h0.le hM_5
  refine WP_seq ?_
  refine WP_region ?_
  refine S_v E rfl (R_lss E rfl rfl) rfl ?_
  clear E a; intro a E
  refine WL_nil ?_
  refine T_n ?_
  refine WP_seq ?_
  refine WP_cond E rfl (fun hc_6 => ?_) (fun hc_6 => ?_)
  · replace hc_6 := of_decide_eq_true hc_6
    refine WP_skip ?_
    refine T_n ?_
    refine WP_seq ?_
    refine WP_block ?_
    refine WP_seq ?_
    refine WP_region ?_
    obtain ⟨x_7, hx_7⟩ : ∃ x, (l0)[k]? = some x := ⟨_, List.getElem?_eq_getElem (by first | omega | (simp; done) | (simp; omega) | (simp_all; omega))⟩
    obtain ⟨p_8, hp_8, qp_8⟩ := h0.at hx_7
    refine S_v E rfl (R_idx E rfl rfl T22 hp_8 rfl) rfl ?_
    clear E a; intro a E
    refine S_v E rfl (R_loadM E rfl Tryz.isAgg3 S.imm qp_8) rfl ?_
    clear E a; intro a E
    refine S_v E rfl (R_assign E rfl) rfl ?_
    clear E a; intro a E
    refine WL_nil ?_
    refine T_n ?_
    refine WP_region ?_
    refine S_v E rfl (R_move E rfl) rfl ?_
    clear E a; intro a E
    refine S_v E rfl (R_nilCheck E rfl rfl) rfl ?_
    clear E a; intro a E
    refine S_v E rfl (R_load E rfl (Tryz.isAgg145 _) (cell_blk (S.mem (.tail _ (.head _))))) rfl ?_
    clear E a; intro a E
    refine S_v E rfl (R_move E rfl) rfl ?_
    clear E a; intro a E
    refine S_x (X_sp (p := [OwnS mm_4 (addsL [] (l0.take k))]) E S rfl rfl rfl (U_Add) (Hp.le.refl _) ?_)
    clear E a S; rintro a _ w M_9 _ hM_9 ⟨⟨_, rfl⟩, rfl⟩ S E
    replace S : St w M_9 (OwnS mm_4 (addS (addsL [] (l0.take k)) x_7) :: blk b_3 (.cells #[.map (some mm_4)] 145) :: H) := S
    replace h0 := h0.le hM_9
    refine WL_nil ?_
    refine B_n ?_
    refine T_n ?_
    refine WP_region ?_
    refine S_v E rfl (R_addx (m := ((k + 1 : Nat) : Int)) E rfl rfl (by omega) (by omega)) rfl ?_
    clear E a; intro a E
    refine S_v E rfl (R_move E rfl) rfl ?_
    clear E a; intro a E
    refine WL_nil ?_
    refine T_n ?_
    replace S := S.reM (L' := (Sl.encS (addsL [] (l0.take (k + 1))))) (congrArg Sl.encS (show addS (addsL [] (l0.take k)) x_7 = (addsL [] (l0.take (k + 1))) by first | rfl | (simp [addsL]; done) | (rw [List.take_add_one]; simp [*, addsL_snoc]; done)))
    exact ⟨k + 1, ⟨M_9, (hM_5.trans hM_9), S, E.keep ⟨rfl, rfl, rfl, rfl, trivial⟩, by ((try clear S); (try clear E); first | assumption | omega | rfl | (simp; done) | (simp_all; done) | (simp [List.take_add_one, *]; done) | grind [List.take_add_one])⟩, by omega⟩
  · replace hc_6 := of_decide_eq_false hc_6
    refine WP_exit ?_
    refine T_x ?_
    refine T_x ?_
    refine B_x ?_
    refine T_n ?_
    refine WP_seq ?_
    refine WP_region ?_
    refine S_v E rfl (R_move E rfl) rfl ?_
    clear E a; intro a E
    refine S_v E rfl (R_ifaceP E rfl Tryz.underlying116) rfl ?_
    clear E a; intro a E
    refine S_v E rfl (R_assign E rfl) rfl ?_
    clear E a; intro a E
    refine WL_nil ?_
    refine T_n ?_
    refine WP_ret ?_
    replace S := S.front1
    exact F_ret1 E Tryz.results59 rfl ⟨_, rfl, M_5, _, (hM_1.trans hM_5), ⟨_, _, _, rfl, rfl, (by (first | assumption | exact addsL_nodup _ _ List.nodup_nil | exact addsL_nodup _ _ (addsL_nodup _ _ List.nodup_nil))), (by (intro z; rw [List.take_of_length_le (by omega)]; simp [mem_addsL]))⟩, S⟩

set_option maxRecDepth 100000 in
set_option maxHeartbeats 4000000 in
theorem O_setOf {M : Hp} {v1 : Value} {l1 : List Int} (h1 : RdI M v1 l1)(hb : l1.length ≤ 1000000000) :
    Sp Tryz.prog (.func (.func 41) #[] #[]) M [.bool false, v1] [] (fun r M' C' => ∃ b_ m_ l_, C' = [blk b_ (.cells #[.map (some m_)] 145), OwnS m_ l_] ∧ r = .iface 116 (.pointer (some ⟨b_, 0, none⟩)) ∧ (l_.Nodup) ∧ (∀ z, z ∈ l_ ↔ z ∈ l1)) := by
  refine Sp_enter Tryz.func41 rfl Tryz.ntmps41 rfl Tryz.call41 ?_
  intro a w M1 H hM1 S E
  replace h1 := h1.le hM1
  have b1 := h1.bound
  refine WP_seq ?_
  refine WP_region ?_
  refine S_v E rfl (R_assign E rfl) rfl ?_
  clear E a; intro a E
  refine WL_nil ?_
  refine T_n ?_
  refine WP_seq ?_
  refine WP_seq ?_
  refine WP_region ?_
  refine S_v E rfl (R_move E rfl) rfl ?_
  clear E a; intro a E
  refine WL_nil ?_
  refine T_n ?_
  refine WP_condF E rfl rfl ?_
  refine WP_skip ?_
  refine T_n ?_
  refine WP_seq ?_
  refine WP_region ?_
  refine S_v E rfl (R_move E rfl) rfl ?_
  clear E a; intro a E
  refine S_x (X_sp (p := []) E S rfl rfl rfl (O_NewThreadUnsafeSet h1 (by first | assumption | omega)) (Hp.le.refl _) ?_)
  clear E a S; rintro a _ w M_1 _ hM_1 ⟨b_2, m_3, l_4, rfl, rfl, hx_5, hx_6⟩ S E
  replace S : St w M_1 (blk b_2 (.cells #[.map (some m_3)] 145) :: OwnS m_3 l_4 :: H) := S
  replace h1 := h1.le hM_1
  refine S_v E rfl (R_assign E rfl) rfl ?_
  clear E a; intro a E
  refine WL_nil ?_
  refine T_n ?_
  refine WP_ret ?_
  replace S := S.front1
  replace S := S.front1
  exact F_ret1 E Tryz.results41 rfl ⟨_, rfl, M_1, _, hM_1, ⟨_, _, _, rfl, rfl, (by assumption), (by assumption)⟩, S⟩

set_option maxRecDepth 100000 in
set_option maxHeartbeats 4000000 in
theorem S_new {M : Hp} {n0 : Nat} (hb0 : n0 ≤ 1000000000000) :
    Sp Tryz.prog (.func (.func 83) #[] #[]) M [.int .i64 ((n0 : Nat) : Int)] [] (fun r M' C' => ∃ p b m, r = .pointer (some ⟨p, 0, none⟩) ∧ C' = [blk p (.cells #[.int .i32 0, .int .u32 0, .int .u32 0, .int .u32 0, .int .i32 0, .int .i32 0, .pointer (some ⟨b, 0, none⟩)] 144), blk b (.cells #[.map (some m)] 145), OwnS m []]) := by
  refine Sp_enter Tryz.func83 rfl Tryz.ntmps83 rfl Tryz.call83 ?_
  intro a w M1 H hM1 S E
  refine WP_seq ?_
  refine WP_region ?_
  refine S_v E rfl (R_assign E rfl) rfl ?_
  clear E a; intro a E
  refine WL_nil ?_
  refine T_n ?_
  refine WP_seq ?_
  refine WP_region ?_
  refine S_v E rfl (R_move E rfl) rfl ?_
  clear E a; intro a E
  refine S_x (X_sp (p := []) E S rfl rfl rfl (U_new (by first | assumption | omega)) (Hp.le.refl _) ?_)
  clear E a S; rintro a _ w M_1 _ hM_1 ⟨b_3, mm_4, rfl, rfl⟩ S E
  replace S : St w M_1 (blk b_3 (.cells #[.map (some mm_4)] 145) :: OwnS mm_4 ([] : List Int) :: H) := S
  refine S_v E rfl (R_build (u := .agg #[.int .i32 0, .int .u32 0, .int .u32 0, .int .u32 0, .int .i32 0, .int .i32 0, .pointer (some ⟨b_3, 0, none⟩)]) (vs := [.pointer (some ⟨b_3, 0, none⟩)]) E rfl (fun w => BLK144 _ w)) rfl ?_
  clear E a; intro a E
  refine S_x (X_box (cs := #[.int .i32 0, .int .u32 0, .int .u32 0, .int .u32 0, .int .i32 0, .int .i32 0, .pointer (some ⟨b_3, 0, none⟩)]) E S rfl rfl rfl ?_)
  clear E a S; rintro a w b_5 E S
  refine S_v E rfl (R_assign E rfl) rfl ?_
  clear E a; intro a E
  refine WL_nil ?_
  refine T_n ?_
  refine WP_ret ?_
  replace S := S.front2
  replace S := S.front2
  replace S := S.front2
  exact F_ret1 E Tryz.results83 rfl ⟨_, rfl, M_1, _, hM_1, ⟨_, _, _, rfl, rfl⟩, S⟩

set_option maxRecDepth 100000 in
set_option maxHeartbeats 4000000 in
theorem S_Add {M : Hp} {p9 b9 m9 : Nat} {l9 : List Int} {x0 : Int} :
    Sp Tryz.prog (.func (.func 84) #[] #[]) M [.pointer (some ⟨p9, 0, none⟩), .int .i64 x0] [blk p9 (.cells #[.int .i32 0, .int .u32 0, .int .u32 0, .int .u32 0, .int .i32 0, .int .i32 0, .pointer (some ⟨b9, 0, none⟩)] 144), blk b9 (.cells #[.map (some m9)] 145), OwnS m9 l9] (fun r M' C' => (∃ z, r = .bool z) ∧ C' = [blk p9 (.cells #[.int .i32 0, .int .u32 0, .int .u32 0, .int .u32 0, .int .i32 0, .int .i32 0, .pointer (some ⟨b9, 0, none⟩)] 144), blk b9 (.cells #[.map (some m9)] 145), OwnS m9 (addS l9 x0)]) := by
  refine Sp_enter Tryz.func84 rfl Tryz.ntmps84 rfl Tryz.call84 ?_
  intro a w M1 H hM1 S E
  replace S : St w M1 (blk p9 (.cells #[.int .i32 0, .int .u32 0, .int .u32 0, .int .u32 0, .int .i32 0, .int .i32 0, .pointer (some ⟨b9, 0, none⟩)] 144) :: blk b9 (.cells #[.map (some m9)] 145) :: OwnS m9 l9 :: _) := S
  refine WP_seq ?_
  refine WP_region ?_
  refine S_v E rfl (R_assign E rfl) rfl ?_
  clear E a; intro a E
  refine WL_nil ?_
  refine T_n ?_
  refine WP_seq ?_
  refine WP_region ?_
  refine S_v E rfl (R_move E rfl) rfl ?_
  clear E a; intro a E
  refine S_v E rfl (R_nilCheck E rfl rfl) rfl ?_
  clear E a; intro a E
  refine S_v E rfl (R_fieldAddr E rfl (FA144_0 _)) rfl ?_
  clear E a; intro a E
  replace S : St w M1 (LK p9 144 0 (.pointer (some ⟨b9, 0, none⟩)) :: _) := S
  refine S_x (X_sp (p := [LK p9 144 0 (.pointer (some ⟨b9, 0, none⟩))]) E S rfl rfl rfl (wlock_sp Tryz.rwWLib (T := 144)) (Hp.le.refl _) ?_)
  clear E a S; rintro a _ w M_1 _ hM_1 ⟨rfl, rfl⟩ S E
  replace S : St w M_1 (blk p9 (.cells #[.int .i32 1, .int .u32 0, .int .u32 0, .int .u32 0, .int .i32 (-1073741824), .int .i32 0, .pointer (some ⟨b9, 0, none⟩)] 144) :: blk b9 (.cells #[.map (some m9)] 145) :: OwnS m9 l9 :: H) := S
  refine WL_nil ?_
  refine T_n ?_
  refine WP_seq ?_
  refine WP_region ?_
  refine S_v E rfl (R_move E rfl) rfl ?_
  clear E a; intro a E
  refine S_v E rfl (R_nilCheck E rfl rfl) rfl ?_
  clear E a; intro a E
  refine S_v E rfl (R_fieldAddr E rfl (FA144_1 _)) rfl ?_
  clear E a; intro a E
  refine S_v E rfl (R_load E rfl (Tryz.isAgg116 _) (cell_blkf (S.mem (.head _)) rfl)) rfl ?_
  clear E a; intro a E
  refine S_v E rfl (R_nilCheck E rfl rfl) rfl ?_
  clear E a; intro a E
  refine S_v E rfl (R_load E rfl (Tryz.isAgg145 _) (cell_blk (S.mem (.tail _ (.head _))))) rfl ?_
  clear E a; intro a E
  refine S_v E rfl (R_move E rfl) rfl ?_
  clear E a; intro a E
  replace S := S.front2
  refine S_x (X_sp (p := [OwnS m9 l9]) E S rfl rfl rfl (U_Add) (Hp.le.refl _) ?_)
  clear E a S; rintro a _ w M_2 _ hM_2 ⟨⟨_, rfl⟩, rfl⟩ S E
  replace S : St w M_2 (OwnS m9 (addS l9 x0) :: blk p9 (.cells #[.int .i32 1, .int .u32 0, .int .u32 0, .int .u32 0, .int .i32 (-1073741824), .int .i32 0, .pointer (some ⟨b9, 0, none⟩)] 144) :: blk b9 (.cells #[.map (some m9)] 145) :: H) := S
  refine S_v E rfl (R_assign E rfl) rfl ?_
  clear E a; intro a E
  refine WL_nil ?_
  refine T_n ?_
  refine WP_seq ?_
  refine WP_region ?_
  refine S_v E rfl (R_move E rfl) rfl ?_
  clear E a; intro a E
  refine S_v E rfl (R_nilCheck E rfl rfl) rfl ?_
  clear E a; intro a E
  refine S_v E rfl (R_fieldAddr E rfl (FA144_0 _)) rfl ?_
  clear E a; intro a E
  replace S := S.front1
  replace S : St w M_2 (LKw p9 144 (.pointer (some ⟨b9, 0, none⟩)) :: _) := S
  refine S_x (X_sp (p := [LKw p9 144 (.pointer (some ⟨b9, 0, none⟩))]) E S rfl rfl rfl (wunlock_sp Tryz.rwWLib (T := 144)) (Hp.le.refl _) ?_)
  clear E a S; rintro a _ w M_3 _ hM_3 ⟨rfl, rfl⟩ S E
  replace S : St w M_3 (blk p9 (.cells #[.int .i32 0, .int .u32 0, .int .u32 0, .int .u32 0, .int .i32 0, .int .i32 0, .pointer (some ⟨b9, 0, none⟩)] 144) :: OwnS m9 (addS l9 x0) :: blk b9 (.cells #[.map (some m9)] 145) :: H) := S
  refine WL_nil ?_
  refine T_n ?_
  refine WP_seq ?_
  refine WP_region ?_
  refine S_v E rfl (R_move E rfl) rfl ?_
  clear E a; intro a E
  refine S_v E rfl (R_assign E rfl) rfl ?_
  clear E a; intro a E
  refine WL_nil ?_
  refine T_n ?_
  refine WP_ret ?_
  replace S := S.front1
  replace S := S.front2
  replace S := S.front2
  exact F_ret1 E Tryz.results84 rfl ⟨_, rfl, M_3, _, (hM_1.trans (hM_2.trans hM_3)), ⟨⟨_, rfl⟩, rfl⟩, S⟩

set_option maxRecDepth 100000 in
set_option maxHeartbeats 4000000 in
theorem OS_NewSet {M : Hp} {v0 : Value} {l0 : List Int} (h0 : RdI M v0 l0)(hb : l0.length ≤ 1000000000) :
    Sp Tryz.prog (.func (.func 58) #[] #[]) M [v0] [] (fun r M' C' => ∃ p_ b_ m_ l_, C' = [blk p_ (.cells #[.int .i32 0, .int .u32 0, .int .u32 0, .int .u32 0, .int .i32 0, .int .i32 0, .pointer (some ⟨b_, 0, none⟩)] 144), blk b_ (.cells #[.map (some m_)] 145), OwnS m_ l_] ∧ r = .iface 114 (.pointer (some ⟨p_, 0, none⟩)) ∧ (l_.Nodup) ∧ (∀ z, z ∈ l_ ↔ z ∈ l0)) := by
  refine Sp_enter Tryz.func58 rfl Tryz.ntmps58 rfl Tryz.call58 ?_
  intro a w M1 H hM1 S E
  replace h0 := h0.le hM1
  have b0 := h0.bound
  refine WP_seq ?_
  refine WP_region ?_
  refine S_v E rfl (R_assign E rfl) rfl ?_
  clear E a; intro a E
  refine WL_nil ?_
  refine T_n ?_
  refine WP_seq ?_
  refine WP_region ?_
  refine S_v E rfl (R_move E rfl) rfl ?_
  clear E a; intro a E
  refine S_v E rfl (R_lenV E rfl T22 h0.len) rfl ?_
  clear E a; intro a E
  refine S_x (X_sp (p := []) E S rfl rfl rfl (S_new (by first | assumption | omega)) (Hp.le.refl _) ?_)
  clear E a S; rintro a _ w M_1 _ hM_1 ⟨p_2, b_3, mm_4, rfl, rfl⟩ S E
  replace S : St w M_1 (blk p_2 (.cells #[.int .i32 0, .int .u32 0, .int .u32 0, .int .u32 0, .int .i32 0, .int .i32 0, .pointer (some ⟨b_3, 0, none⟩)] 144) :: blk b_3 (.cells #[.map (some mm_4)] 145) :: OwnS mm_4 ([] : List Int) :: H) := S
  replace h0 := h0.le hM_1
  refine S_v E rfl (R_assign E rfl) rfl ?_
  clear E a; intro a E
  refine WL_nil ?_
  refine T_n ?_
  refine WP_seq ?_
  refine WP_seq ?_
  refine WP_region ?_
  refine S_v E rfl (R_move E rfl) rfl ?_
  clear E a; intro a E
  refine S_v E rfl (R_lenV E rfl T22 h0.len) rfl ?_
  clear E a; intro a E
  refine S_v E rfl (R_move E rfl) rfl ?_
  clear E a; intro a E
  refine WL_nil ?_
  refine T_n ?_
  refine WP_block ?_
  replace S := S.front2
  replace S := S.reM (L' := (Sl.encS (addsL [] (l0.take 0)))) (congrArg Sl.encS (show ([] : List Int) = (addsL [] (l0.take 0)) by first | rfl | (simp [addsL]; done) | (rw [List.take_add_one]; simp [*, addsL_snoc]; done)))
  refine WP_loop (γ := Nat) (fun (k : Nat) a w => ∃ (M_5 : Hp), Hp.le M_1 M_5 ∧ St w M_5 (OwnS mm_4 (addsL [] (l0.take k)) :: blk p_2 (.cells #[.int .i32 0, .int .u32 0, .int .u32 0, .int .u32 0, .int .i32 0, .int .i32 0, .pointer (some ⟨b_3, 0, none⟩)] 144) :: blk b_3 (.cells #[.map (some mm_4)] 145) :: H) ∧ Env a 21 [] [(3, .pointer (some ⟨p_2, 0, none⟩)), (9, v0), (10, .int .i64 (((l0).length : Nat) : Int)), (11, .int .i64 ((k : Nat) : Int))] ∧ (k ≤ (l0).length)) (fun k => ((l0).length) - k) 0 ⟨M_1, Hp.le.refl _, S, E.keep ⟨rfl, rfl, rfl, rfl, trivial⟩, by ((try clear S); (try clear E); first | assumption | omega | rfl | (simp; done) | (simp_all; done) | (simp [List.take_add_one, *]; done) | grind [List.take_add_one])⟩ ?_
  try clear E
  try clear S
  try clear a
  try clear w
  rintro k a w ⟨M_5, hM_5, S, E, hL0_0⟩
  replace h0 := h0.le hM_5
  refine WP_seq ?_
  refine WP_region ?_
  refine S_v E rfl (R_lss E rfl rfl) rfl ?_
  clear E a; intro a E
  refine WL_nil ?_
  refine T_n ?_
  refine WP_seq ?_
  refine WP_cond E rfl (fun hc_6 => ?_) (fun hc_6 => ?_)
  · replace hc_6 := of_decide_eq_true hc_6
    refine WP_skip ?_
    refine T_n ?_
    refine WP_seq ?_
    refine WP_block ?_
    refine WP_seq ?_
    refine WP_region ?_
    obtain ⟨x_7, hx_7⟩ : ∃ x, (l0)[k]? = some x := ⟨_, List.getElem?_eq_getElem (by first | omega | (simp; done) | (simp; omega) | (simp_all; omega))⟩
    obtain ⟨p_8, hp_8, qp_8⟩ := h0.at hx_7
    refine S_v E rfl (R_idx E rfl rfl T22 hp_8 rfl) rfl ?_
    clear E a; intro a E
    refine S_v E rfl (R_loadM E rfl Tryz.isAgg3 S.imm qp_8) rfl ?_
    clear E a; intro a E
    refine S_v E rfl (R_assign E rfl) rfl ?_
    clear E a; intro a E
    refine WL_nil ?_
    refine T_n ?_
    refine WP_region ?_
    refine S_v E rfl (R_move E rfl) rfl ?_
    clear E a; intro a E
    refine S_v E rfl (R_move E rfl) rfl ?_
    clear E a; intro a E
    replace S := S.front2
    replace S := S.front2
    refine S_x (X_sp (p := [blk p_2 (.cells #[.int .i32 0, .int .u32 0, .int .u32 0, .int .u32 0, .int .i32 0, .int .i32 0, .pointer (some ⟨b_3, 0, none⟩)] 144), blk b_3 (.cells #[.map (some mm_4)] 145), OwnS mm_4 (addsL [] (l0.take k))]) E S rfl rfl rfl (S_Add) (Hp.le.refl _) ?_)
    clear E a S; rintro a _ w M_9 _ hM_9 ⟨⟨_, rfl⟩, rfl⟩ S E
    replace S : St w M_9 (blk p_2 (.cells #[.int .i32 0, .int .u32 0, .int .u32 0, .int .u32 0, .int .i32 0, .int .i32 0, .pointer (some ⟨b_3, 0, none⟩)] 144) :: blk b_3 (.cells #[.map (some mm_4)] 145) :: OwnS mm_4 (addS (addsL [] (l0.take k)) x_7) :: H) := S
    replace h0 := h0.le hM_9
    refine WL_nil ?_
    refine B_n ?_
    refine T_n ?_
    refine WP_region ?_
    refine S_v E rfl (R_addx (m := ((k + 1 : Nat) : Int)) E rfl rfl (by omega) (by omega)) rfl ?_
    clear E a; intro a E
    refine S_v E rfl (R_move E rfl) rfl ?_
    clear E a; intro a E
    refine WL_nil ?_
    refine T_n ?_
    replace S := S.front1
    replace S := S.front1
    replace S := S.front2
    replace S := S.reM (L' := (Sl.encS (addsL [] (l0.take (k + 1))))) (congrArg Sl.encS (show addS (addsL [] (l0.take k)) x_7 = (addsL [] (l0.take (k + 1))) by first | rfl | (simp [addsL]; done) | (rw [List.take_add_one]; simp [*, addsL_snoc]; done)))
    exact ⟨k + 1, ⟨M_9, (hM_5.trans hM_9), S, E.keep ⟨rfl, rfl, rfl, rfl, trivial⟩, by ((try clear S); (try clear E); first | assumption | omega | rfl | (simp; done) | (simp_all; done) | (simp [List.take_add_one, *]; done) | grind [List.take_add_one])⟩, by omega⟩
  · replace hc_6 := of_decide_eq_false hc_6
    refine WP_exit ?_
    refine T_x ?_
    refine T_x ?_
    refine B_x ?_
    refine T_n ?_
    refine WP_seq ?_
    refine WP_region ?_
    refine S_v E rfl (R_move E rfl) rfl ?_
    clear E a; intro a E
    refine S_v E rfl (R_ifaceP E rfl Tryz.underlying114) rfl ?_
    clear E a; intro a E
    refine S_v E rfl (R_assign E rfl) rfl ?_
    clear E a; intro a E
    refine WL_nil ?_
    refine T_n ?_
    refine WP_ret ?_
    replace S := S.front2
    replace S := S.front2
    exact F_ret1 E Tryz.results58 rfl ⟨_, rfl, M_5, _, (hM_1.trans hM_5), ⟨_, _, _, _, rfl, rfl, (by (first | assumption | exact addsL_nodup _ _ List.nodup_nil | exact addsL_nodup _ _ (addsL_nodup _ _ List.nodup_nil))), (by (intro z; rw [List.take_of_length_le (by omega)]; simp [mem_addsL]))⟩, S⟩

set_option maxRecDepth 100000 in
set_option maxHeartbeats 4000000 in
theorem OS_setOf {M : Hp} {v1 : Value} {l1 : List Int} (h1 : RdI M v1 l1)(hb : l1.length ≤ 1000000000) :
    Sp Tryz.prog (.func (.func 41) #[] #[]) M [.bool true, v1] [] (fun r M' C' => ∃ p_ b_ m_ l_, C' = [blk p_ (.cells #[.int .i32 0, .int .u32 0, .int .u32 0, .int .u32 0, .int .i32 0, .int .i32 0, .pointer (some ⟨b_, 0, none⟩)] 144), blk b_ (.cells #[.map (some m_)] 145), OwnS m_ l_] ∧ r = .iface 114 (.pointer (some ⟨p_, 0, none⟩)) ∧ (l_.Nodup) ∧ (∀ z, z ∈ l_ ↔ z ∈ l1)) := by
  refine Sp_enter Tryz.func41 rfl Tryz.ntmps41 rfl Tryz.call41 ?_
  intro a w M1 H hM1 S E
  replace h1 := h1.le hM1
  have b1 := h1.bound
  refine WP_seq ?_
  refine WP_region ?_
  refine S_v E rfl (R_assign E rfl) rfl ?_
  clear E a; intro a E
  refine WL_nil ?_
  refine T_n ?_
  refine WP_seq ?_
  refine WP_seq ?_
  refine WP_region ?_
  refine S_v E rfl (R_move E rfl) rfl ?_
  clear E a; intro a E
  refine WL_nil ?_
  refine T_n ?_
  refine WP_condT E rfl rfl ?_
  refine WP_seq ?_
  refine WP_region ?_
  refine S_v E rfl (R_move E rfl) rfl ?_
  clear E a; intro a E
  refine S_x (X_sp (p := []) E S rfl rfl rfl (OS_NewSet h1 (by first | assumption | omega)) (Hp.le.refl _) ?_)
  clear E a S; rintro a _ w M_1 _ hM_1 ⟨p_2, b_3, m_4, l_5, rfl, rfl, hx_6, hx_7⟩ S E
  replace S : St w M_1 (blk p_2 (.cells #[.int .i32 0, .int .u32 0, .int .u32 0, .int .u32 0, .int .i32 0, .int .i32 0, .pointer (some ⟨b_3, 0, none⟩)] 144) :: blk b_3 (.cells #[.map (some m_4)] 145) :: OwnS m_4 l_5 :: H) := S
  replace h1 := h1.le hM_1
  refine S_v E rfl (R_assign E rfl) rfl ?_
  clear E a; intro a E
  refine WL_nil ?_
  refine T_n ?_
  refine WP_ret ?_
  refine T_r ?_
  replace S := S.front2
  replace S := S.front2
  replace S := S.front2
  exact F_ret1 E Tryz.results41 rfl ⟨_, rfl, M_1, _, hM_1, ⟨_, _, _, _, rfl, rfl, (by assumption), (by assumption)⟩, S⟩

set_option maxRecDepth 100000 in
set_option maxHeartbeats 4000000 in
theorem reg_setOf {M : Hp} {x0 : Bool} {v1 : Value} {l1 : List Int} (h1 : RdI M v1 l1) (hb : l1.length ≤ 1000000000) :
    Sp Tryz.prog (.func (.func 41) #[] #[]) M [.bool x0, v1] [] (fun r M' C' => ∃ x : RG, C' = [SetI KS x0 x] ∧ r = ifv KS x0 x ∧ x.2.2 = setI l1) := by
  cases x0
  · exact spConvC (O_setOf h1 hb) fun v M2 C ⟨b, m, l, h1, h2, h3, h4⟩ => ⟨[SetI KS false (0, .pointer (some ⟨b, 0, none⟩), setI l1)], ⟨_, rfl, h2, rfl⟩, fun w M H s => by subst h1; exact mkSetU (K := KS) h3 (fun z => (h4 z).trans mem_setI.symm) s⟩
  · exact spConvC (OS_setOf h1 hb) fun v M2 C ⟨p, b, m, l, h1, h2, h3, h4⟩ => ⟨[SetI KS true (p, .pointer (some ⟨b, 0, none⟩), setI l1)], ⟨_, rfl, h2, rfl⟩, fun w M H s => by subst h1; exact mkSetS (K := KS) h3 (fun z => (h4 z).trans mem_setI.symm) s⟩

set_option maxRecDepth 100000 in
set_option maxHeartbeats 4000000 in
theorem impl_mod {M : Hp} {x0 x1 : Int} (hn : x1 ≠ 0) (g1 : -9223372036854775808 ≤ x1 ∧ x1 ≤ 9223372036854775807) :
    Pu Tryz.prog (.func (.func 60) #[] #[]) M [.int .i64 x0, .int .i64 x1] (fun r M' => r = .int .i64 (x0 % x1)) := by
  refine Pu_enter Tryz.func60 rfl Tryz.ntmps60 rfl Tryz.call60 ?_
  intro a w M1 H hM1 S E
  have ht := tmod_emod x0 x1 hn
  refine WP_seq ?_
  refine WP_region ?_
  refine S_v E rfl (R_assign E rfl) rfl ?_
  clear E a; intro a E
  refine WL_nil ?_
  refine T_n ?_
  refine WP_seq ?_
  refine WP_region ?_
  refine S_v E rfl (R_move E rfl) rfl ?_
  clear E a; intro a E
  refine S_v E rfl (R_move E rfl) rfl ?_
  clear E a; intro a E
  refine S_v E rfl (R_rem E rfl rfl (by first | decide | omega)) rfl ?_
  clear E a; intro a E
  refine S_v E rfl (R_assign E rfl) rfl ?_
  clear E a; intro a E
  refine WL_nil ?_
  refine T_n ?_
  refine WP_seq ?_
  refine WP_seq ?_
  refine WP_region ?_
  refine S_v E rfl (R_move E rfl) rfl ?_
  clear E a; intro a E
  refine S_v E rfl (R_lss E rfl rfl) rfl ?_
  clear E a; intro a E
  refine WL_nil ?_
  refine T_n ?_
  refine WP_cond E rfl (fun hc_1 => ?_) (fun hc_1 => ?_)
  · replace hc_1 := of_decide_eq_true hc_1
    refine WP_seq ?_
    refine WP_seq ?_
    refine WP_region ?_
    refine S_v E rfl (R_move E rfl) rfl ?_
    clear E a; intro a E
    refine S_v E rfl (R_lss E rfl rfl) rfl ?_
    clear E a; intro a E
    refine WL_nil ?_
    refine T_n ?_
    refine WP_cond E rfl (fun hc_2 => ?_) (fun hc_2 => ?_)
    · replace hc_2 := of_decide_eq_true hc_2
      refine WP_seq ?_
      refine WP_region ?_
      refine S_v E rfl (R_move E rfl) rfl ?_
      clear E a; intro a E
      refine S_v E rfl (R_move E rfl) rfl ?_
      clear E a; intro a E
      refine S_v E rfl (R_subx (m := (Int.tmod x0 x1) - x1) E rfl rfl (by omega) (by omega)) rfl ?_
      clear E a; intro a E
      refine S_v E rfl (R_assign E rfl) rfl ?_
      clear E a; intro a E
      refine WL_nil ?_
      refine T_n ?_
      refine WP_ret ?_
      refine T_r ?_
      refine T_r ?_
      exact F_ret1 E Tryz.results60 rfl ⟨_, rfl, M1, (Hp.le.refl _), (congrArg (Value.int .i64) (by omega)), S⟩
    · replace hc_2 := of_decide_eq_false hc_2
      refine WP_skip ?_
      refine T_n ?_
      refine WP_seq ?_
      refine WP_region ?_
      refine S_v E rfl (R_move E rfl) rfl ?_
      clear E a; intro a E
      refine S_v E rfl (R_move E rfl) rfl ?_
      clear E a; intro a E
      refine S_v E rfl (R_addx (m := (Int.tmod x0 x1) + x1) E rfl rfl (by omega) (by omega)) rfl ?_
      clear E a; intro a E
      refine S_v E rfl (R_assign E rfl) rfl ?_
      clear E a; intro a E
      refine WL_nil ?_
      refine T_n ?_
      refine WP_ret ?_
      refine T_r ?_
      exact F_ret1 E Tryz.results60 rfl ⟨_, rfl, M1, (Hp.le.refl _), (congrArg (Value.int .i64) (by omega)), S⟩
  · replace hc_1 := of_decide_eq_false hc_1
    refine WP_skip ?_
    refine T_n ?_
    refine WP_seq ?_
    refine WP_region ?_
    refine S_v E rfl (R_move E rfl) rfl ?_
    clear E a; intro a E
    refine S_v E rfl (R_assign E rfl) rfl ?_
    clear E a; intro a E
    refine WL_nil ?_
    refine T_n ?_
    refine WP_ret ?_
    exact F_ret1 E Tryz.results60 rfl ⟨_, rfl, M1, (Hp.le.refl _), (congrArg (Value.int .i64) (by omega)), S⟩

set_option maxRecDepth 100000 in
set_option maxHeartbeats 4000000 in
theorem O_Add {M : Hp} {m9 : Nat} {l9 : List Int} {x0 : Int} (hn9 : l9.Nodup)  :
    Sp Tryz.prog (.func (.func 86) #[] #[]) M [.map (some m9), .int .i64 x0] [OwnS m9 l9] (fun r M' C' => ∃ l_, C' = [OwnS m9 l_] ∧ r = .bool (decide (x0 ∉ l9)) ∧ (l_.Nodup) ∧ (∀ z, z ∈ l_ ↔ z ∈ l9 ∨ z = x0)) := by
  refine Sp_enter Tryz.func86 rfl Tryz.ntmps86 rfl Tryz.call86 ?_
  intro a w M1 H hM1 S E
  replace S : St w M1 (OwnS m9 l9 :: _) := S
  refine WP_seq ?_
  refine WP_region ?_
  refine S_v E rfl (R_assign E rfl) rfl ?_
  clear E a; intro a E
  refine WL_nil ?_
  refine T_n ?_
  refine WP_seq ?_
  refine WP_region ?_
  refine S_v E rfl (R_move E rfl) rfl ?_
  clear E a; intro a E
  refine S_v E rfl ((R_lenO E S MT145 rfl).trans (by rw [encS_len])) rfl ?_
  clear E a; intro a E
  refine S_v E rfl (R_assign E rfl) rfl ?_
  clear E a; intro a E
  refine WL_nil ?_
  refine T_n ?_
  refine WP_seq ?_
  refine WP_region ?_
  refine S_v E rfl (R_move E rfl) rfl ?_
  clear E a; intro a E
  refine S_v E rfl (R_move E rfl) rfl ?_
  clear E a; intro a E
  refine S_v E rfl (R_build (u := .agg #[]) (vs := []) E rfl (fun w => FB104__  w)) rfl ?_
  clear E a; intro a E
  refine S_x0 (X_updateS E S MT145 rfl rfl rfl ?_)
  clear E a S; rintro a w E S
  refine WL_nil ?_
  refine T_n ?_
  refine WP_seq ?_
  refine WP_region ?_
  refine S_v E rfl (R_move E rfl) rfl ?_
  clear E a; intro a E
  refine S_v E rfl (R_move E rfl) rfl ?_
  clear E a; intro a E
  refine S_v E rfl ((R_lenO E S MT145 rfl).trans (by rw [encS_len])) rfl ?_
  clear E a; intro a E
  refine S_v E rfl (R_neq E rfl rfl) rfl ?_
  clear E a; intro a E
  refine S_v E rfl (R_assign E rfl) rfl ?_
  clear E a; intro a E
  refine WL_nil ?_
  refine T_n ?_
  refine WP_ret ?_
  exact F_ret1 E Tryz.results86 rfl ⟨_, rfl, M1, _, (Hp.le.refl _), ⟨_, rfl, (congrArg Value.bool (decide_eq_decide.2 addS_ne)), (by (exact addS_nodup hn9 _)), (by (intro z; exact mem_addS))⟩, S⟩

set_option maxRecDepth 100000 in
set_option maxHeartbeats 4000000 in
theorem OS_Add {M : Hp} {p9 b9 m9 : Nat} {l9 : List Int} {x0 : Int} (hn9 : l9.Nodup)  :
    Sp Tryz.prog (.func (.func 84) #[] #[]) M [.pointer (some ⟨p9, 0, none⟩), .int .i64 x0] [blk p9 (.cells #[.int .i32 0, .int .u32 0, .int .u32 0, .int .u32 0, .int .i32 0, .int .i32 0, .pointer (some ⟨b9, 0, none⟩)] 144), blk b9 (.cells #[.map (some m9)] 145), OwnS m9 l9] (fun r M' C' => ∃ l_, C' = [blk p9 (.cells #[.int .i32 0, .int .u32 0, .int .u32 0, .int .u32 0, .int .i32 0, .int .i32 0, .pointer (some ⟨b9, 0, none⟩)] 144), blk b9 (.cells #[.map (some m9)] 145), OwnS m9 l_] ∧ r = .bool (decide (x0 ∉ l9)) ∧ (l_.Nodup) ∧ (∀ z, z ∈ l_ ↔ z ∈ l9 ∨ z = x0)) := by
  refine Sp_enter Tryz.func84 rfl Tryz.ntmps84 rfl Tryz.call84 ?_
  intro a w M1 H hM1 S E
  replace S : St w M1 (blk p9 (.cells #[.int .i32 0, .int .u32 0, .int .u32 0, .int .u32 0, .int .i32 0, .int .i32 0, .pointer (some ⟨b9, 0, none⟩)] 144) :: blk b9 (.cells #[.map (some m9)] 145) :: OwnS m9 l9 :: _) := S
  refine WP_seq ?_
  refine WP_region ?_
  refine S_v E rfl (R_assign E rfl) rfl ?_
  clear E a; intro a E
  refine WL_nil ?_
  refine T_n ?_
  refine WP_seq ?_
  refine WP_region ?_
  refine S_v E rfl (R_move E rfl) rfl ?_
  clear E a; intro a E
  refine S_v E rfl (R_nilCheck E rfl rfl) rfl ?_
  clear E a; intro a E
  refine S_v E rfl (R_fieldAddr E rfl (FA144_0 _)) rfl ?_
  clear E a; intro a E
  replace S : St w M1 (LK p9 144 0 (.pointer (some ⟨b9, 0, none⟩)) :: _) := S
  refine S_x (X_sp (p := [LK p9 144 0 (.pointer (some ⟨b9, 0, none⟩))]) E S rfl rfl rfl (wlock_sp Tryz.rwWLib (T := 144)) (Hp.le.refl _) ?_)
  clear E a S; rintro a _ w M_1 _ hM_1 ⟨rfl, rfl⟩ S E
  replace S : St w M_1 (blk p9 (.cells #[.int .i32 1, .int .u32 0, .int .u32 0, .int .u32 0, .int .i32 (-1073741824), .int .i32 0, .pointer (some ⟨b9, 0, none⟩)] 144) :: blk b9 (.cells #[.map (some m9)] 145) :: OwnS m9 l9 :: H) := S
  refine WL_nil ?_
  refine T_n ?_
  refine WP_seq ?_
  refine WP_region ?_
  refine S_v E rfl (R_move E rfl) rfl ?_
  clear E a; intro a E
  refine S_v E rfl (R_nilCheck E rfl rfl) rfl ?_
  clear E a; intro a E
  refine S_v E rfl (R_fieldAddr E rfl (FA144_1 _)) rfl ?_
  clear E a; intro a E
  refine S_v E rfl (R_load E rfl (Tryz.isAgg116 _) (cell_blkf (S.mem (.head _)) rfl)) rfl ?_
  clear E a; intro a E
  refine S_v E rfl (R_nilCheck E rfl rfl) rfl ?_
  clear E a; intro a E
  refine S_v E rfl (R_load E rfl (Tryz.isAgg145 _) (cell_blk (S.mem (.tail _ (.head _))))) rfl ?_
  clear E a; intro a E
  refine S_v E rfl (R_move E rfl) rfl ?_
  clear E a; intro a E
  replace S := S.front2
  refine S_x (X_sp (p := [OwnS m9 l9]) E S rfl rfl rfl (O_Add (by first | assumption | exact List.nodup_nil | exact addsL_nodup _ _ (by assumption) | exact addsL_nodup _ _ List.nodup_nil)) (Hp.le.refl _) ?_)
  clear E a S; rintro a _ w M_2 _ hM_2 ⟨l_3, rfl, rfl, hx_4, hx_5⟩ S E
  replace S : St w M_2 (OwnS m9 l_3 :: blk p9 (.cells #[.int .i32 1, .int .u32 0, .int .u32 0, .int .u32 0, .int .i32 (-1073741824), .int .i32 0, .pointer (some ⟨b9, 0, none⟩)] 144) :: blk b9 (.cells #[.map (some m9)] 145) :: H) := S
  refine S_v E rfl (R_assign E rfl) rfl ?_
  clear E a; intro a E
  refine WL_nil ?_
  refine T_n ?_
  refine WP_seq ?_
  refine WP_region ?_
  refine S_v E rfl (R_move E rfl) rfl ?_
  clear E a; intro a E
  refine S_v E rfl (R_nilCheck E rfl rfl) rfl ?_
  clear E a; intro a E
  refine S_v E rfl (R_fieldAddr E rfl (FA144_0 _)) rfl ?_
  clear E a; intro a E
  replace S := S.front1
  replace S : St w M_2 (LKw p9 144 (.pointer (some ⟨b9, 0, none⟩)) :: _) := S
  refine S_x (X_sp (p := [LKw p9 144 (.pointer (some ⟨b9, 0, none⟩))]) E S rfl rfl rfl (wunlock_sp Tryz.rwWLib (T := 144)) (Hp.le.refl _) ?_)
  clear E a S; rintro a _ w M_6 _ hM_6 ⟨rfl, rfl⟩ S E
  replace S : St w M_6 (blk p9 (.cells #[.int .i32 0, .int .u32 0, .int .u32 0, .int .u32 0, .int .i32 0, .int .i32 0, .pointer (some ⟨b9, 0, none⟩)] 144) :: OwnS m9 l_3 :: blk b9 (.cells #[.map (some m9)] 145) :: H) := S
  refine WL_nil ?_
  refine T_n ?_
  refine WP_seq ?_
  refine WP_region ?_
  refine S_v E rfl (R_move E rfl) rfl ?_
  clear E a; intro a E
  refine S_v E rfl (R_assign E rfl) rfl ?_
  clear E a; intro a E
  refine WL_nil ?_
  refine T_n ?_
  refine WP_ret ?_
  replace S := S.front1
  replace S := S.front2
  replace S := S.front2
  exact F_ret1 E Tryz.results84 rfl ⟨_, rfl, M_6, _, (hM_1.trans (hM_2.trans hM_6)), ⟨_, rfl, rfl, (by assumption), (by assumption)⟩, S⟩

set_option maxRecDepth 100000 in
set_option maxHeartbeats 4000000 in
theorem reg_Add {M : Hp} {x0 : Bool} {v : Value} {t : List RG} {i : Nat} {x : RG} {a : Int} (hx : t[i]? = some x) :
    InvSp Tryz.prog (ifv KS x0 x) "Add" M [.int .i64 a] [Regs KS x0 v t] (fun r _ C' => ∃ L D, C' = Regs KS x0 v (t.set i (x.w L)) :: D ∧ (L = setI (x.2.2 ++ [a]) ∧ r = .bool (decide (a ∉ x.2.2)) ∧ D = [])) := by
  refine reg_canon (Φ := fun r l' D => (∀ z, z ∈ l' ↔ z ∈ x.2.2 ∨ z = a) ∧ r = .bool (decide (a ∉ x.2.2)) ∧ D = []) (reg_liftD hx ?_) fun r l' D ⟨h1, h2, h3⟩ => ⟨setI (x.2.2 ++ [a]), fun z => (h1 z).trans (by simp only [mem_setI, mem_dif, List.mem_append, List.mem_singleton, List.not_mem_nil]), rfl, h2, h3⟩
  cases x0
  · exact mutU_val (fun b v w h => meth_116_Add rfl h) Tryz.call86 fun m q hn hq => by exact spConv (O_Add hn) fun r M2 C ⟨l', h1, h2, h3, h4⟩ => ⟨l', [], h1, h3, fun z => (h4 z).trans (by rw [hq]), by rw [h2]; simp only [hq], rfl⟩
  · exact mutS (fun p w => meth_114_Add p w) Tryz.call84 fun b m q hn hq => by exact spConv (OS_Add hn) fun r M2 C ⟨l', h1, h2, h3, h4⟩ => ⟨l', [], h1, h3, fun z => (h4 z).trans (by rw [hq]), by rw [h2]; simp only [hq], rfl⟩

set_option maxRecDepth 100000 in
set_option maxHeartbeats 4000000 in
theorem O_Append {M : Hp} {v1 : Value} {l1 : List Int} (h1 : RdI M v1 l1){b9 m9 : Nat} {l9 : List Int} (hn9 : l9.Nodup) (hb : l9.length + l1.length ≤ 1000000000000) :
    Sp Tryz.prog (.func (.func 184) #[] #[]) M [.pointer (some ⟨b9, 0, none⟩), v1] [blk b9 (.cells #[.map (some m9)] 145), OwnS m9 l9] (fun r M' C' => ∃ l_, C' = [blk b9 (.cells #[.map (some m9)] 145), OwnS m9 l_] ∧ r = .int .i64 (((l_.length : Nat) : Int) - ((l9.length : Nat) : Int)) ∧ (l_.Nodup) ∧ (∀ z, z ∈ l_ ↔ z ∈ l9 ∨ z ∈ l1)) := by
  refine Sp_enter Tryz.func184 rfl Tryz.ntmps184 rfl Tryz.call184 ?_
  intro a w M1 H hM1 S E
  replace S : St w M1 (blk b9 (.cells #[.map (some m9)] 145) :: OwnS m9 l9 :: _) := S
  replace h1 := h1.le hM1
  have b1 := h1.bound
  refine WP_seq ?_
  refine WP_region ?_
  refine S_v E rfl (R_assign E rfl) rfl ?_
  clear E a; intro a E
  refine WL_nil ?_
  refine T_n ?_
  refine WP_seq ?_
  refine WP_region ?_
  refine S_v E rfl (R_move E rfl) rfl ?_
  clear E a; intro a E
  refine S_v E rfl (R_nilCheck E rfl rfl) rfl ?_
  clear E a; intro a E
  refine S_v E rfl (R_load E rfl (Tryz.isAgg145 _) (cell_blk (S.mem (.head _)))) rfl ?_
  clear E a; intro a E
  replace S := S.front1
  refine S_v E rfl ((R_lenO E S MT145 rfl).trans (by rw [encS_len])) rfl ?_
  clear E a; intro a E
  refine S_v E rfl (R_assign E rfl) rfl ?_
  clear E a; intro a E
  refine WL_nil ?_
  refine T_n ?_
  refine WP_seq ?_
  refine WP_seq ?_
  refine WP_region ?_
  refine S_v E rfl (R_move E rfl) rfl ?_
  clear E a; intro a E
  refine S_v E rfl (R_lenV E rfl T22 h1.len) rfl ?_
  clear E a; intro a E
  refine S_v E rfl (R_move E rfl) rfl ?_
  clear E a; intro a E
  refine WL_nil ?_
  refine T_n ?_
  refine WP_block ?_
  replace S := S.reM (L' := (Sl.encS (addsL l9 (l1.take 0)))) (congrArg Sl.encS (show l9 = addsL l9 (l1.take 0) by first | rfl | (simp [addsL]; done) | (rw [List.take_add_one]; simp [*, addsL_snoc]; done)))
  refine WP_loop (γ := Nat) (fun (k : Nat) a w => ∃ (M_1 : Hp), Hp.le M1 M_1 ∧ St w M_1 (OwnS m9 (addsL l9 (l1.take k)) :: blk b9 (.cells #[.map (some m9)] 145) :: H) ∧ Env a 30 [] [(0, .pointer (some ⟨b9, 0, none⟩)), (5, .int .i64 (((l9).length : Nat) : Int)), (12, v1), (13, .int .i64 (((l1).length : Nat) : Int)), (14, .int .i64 ((k : Nat) : Int))] ∧ (k ≤ (l1).length)) (fun k => ((l1).length) - k) 0 ⟨M1, Hp.le.refl _, S, E.keep ⟨rfl, rfl, rfl, rfl, rfl, trivial⟩, by ((try clear S); (try clear E); first | assumption | omega | rfl | (simp; done) | (simp_all; done) | (simp [List.take_add_one, *]; done) | grind [List.take_add_one])⟩ ?_
  try clear E
  try clear S
  try clear a
  try clear w
  rintro k a w ⟨M_1, hM_1, S, E, hL0_0⟩
  replace h1 := h1.le hM_1
  have ha1 := addsL_le1 l1 l9 k
  refine WP_seq ?_
  refine WP_region ?_
  refine S_v E rfl (R_lss E rfl rfl) rfl ?_
  clear E a; intro a E
  refine WL_nil ?_
  refine T_n ?_
  refine WP_seq ?_
  refine WP_cond E rfl (fun hc_2 => ?_) (fun hc_2 => ?_)
  · replace hc_2 := of_decide_eq_true hc_2
    refine WP_skip ?_
    refine T_n ?_
    refine WP_seq ?_
    refine WP_block ?_
    refine WP_seq ?_
    refine WP_region ?_
    obtain ⟨x_3, hx_3⟩ : ∃ x, (l1)[k]? = some x := ⟨_, List.getElem?_eq_getElem (by first | omega | (simp; done) | (simp; omega) | (simp_all; omega))⟩
    obtain ⟨p_4, hp_4, qp_4⟩ := h1.at hx_3
    refine S_v E rfl (R_idx E rfl rfl T22 hp_4 rfl) rfl ?_
    clear E a; intro a E
    refine S_v E rfl (R_loadM E rfl Tryz.isAgg3 S.imm qp_4) rfl ?_
    clear E a; intro a E
    refine S_v E rfl (R_assign E rfl) rfl ?_
    clear E a; intro a E
    refine WL_nil ?_
    refine T_n ?_
    refine WP_region ?_
    refine S_v E rfl (R_move E rfl) rfl ?_
    clear E a; intro a E
    refine S_v E rfl (R_nilCheck E rfl rfl) rfl ?_
    clear E a; intro a E
    refine S_v E rfl (R_load E rfl (Tryz.isAgg145 _) (cell_blk (S.mem (.tail _ (.head _))))) rfl ?_
    clear E a; intro a E
    refine S_v E rfl (R_move E rfl) rfl ?_
    clear E a; intro a E
    refine S_v E rfl (R_build (u := .agg #[]) (vs := []) E rfl (fun w => FB104__  w)) rfl ?_
    clear E a; intro a E
    refine S_x0 (X_updateS E S MT145 rfl rfl rfl ?_)
    clear E a S; rintro a w E S
    refine WL_nil ?_
    refine B_n ?_
    refine T_n ?_
    refine WP_region ?_
    refine S_v E rfl (R_addx (m := ((k + 1 : Nat) : Int)) E rfl rfl (by omega) (by omega)) rfl ?_
    clear E a; intro a E
    refine S_v E rfl (R_move E rfl) rfl ?_
    clear E a; intro a E
    refine WL_nil ?_
    refine T_n ?_
    replace S := S.reM (L' := (Sl.encS (addsL l9 (l1.take (k + 1))))) (congrArg Sl.encS (show addS (addsL l9 (l1.take k)) x_3 = addsL l9 (l1.take (k + 1)) by first | rfl | (simp [addsL]; done) | (rw [List.take_add_one]; simp [*, addsL_snoc]; done)))
    exact ⟨k + 1, ⟨M_1, hM_1, S, E.keep ⟨rfl, rfl, rfl, rfl, rfl, trivial⟩, by ((try clear S); (try clear E); first | assumption | omega | rfl | (simp; done) | (simp_all; done) | (simp [List.take_add_one, *]; done) | grind [List.take_add_one])⟩, by omega⟩
  · replace hc_2 := of_decide_eq_false hc_2
    refine WP_exit ?_
    refine T_x ?_
    refine T_x ?_
    refine B_x ?_
    refine T_n ?_
    refine WP_seq ?_
    refine WP_region ?_
    refine S_v E rfl (R_move E rfl) rfl ?_
    clear E a; intro a E
    refine S_v E rfl (R_nilCheck E rfl rfl) rfl ?_
    clear E a; intro a E
    refine S_v E rfl (R_load E rfl (Tryz.isAgg145 _) (cell_blk (S.mem (.tail _ (.head _))))) rfl ?_
    clear E a; intro a E
    refine S_v E rfl ((R_lenO E S MT145 rfl).trans (by rw [encS_len])) rfl ?_
    clear E a; intro a E
    refine S_v E rfl (R_move E rfl) rfl ?_
    clear E a; intro a E
    refine S_v E rfl (R_subx (m := (((addsL l9 (l1.take k)).length : Nat) : Int) - (((l9).length : Nat) : Int)) E rfl rfl (by omega) (by omega)) rfl ?_
    clear E a; intro a E
    refine S_v E rfl (R_assign E rfl) rfl ?_
    clear E a; intro a E
    refine WL_nil ?_
    refine T_n ?_
    refine WP_ret ?_
    replace S := S.front1
    exact F_ret1 E Tryz.results184 rfl ⟨_, rfl, M_1, _, hM_1, ⟨_, rfl, rfl, (by (exact addsL_nodup _ _ hn9)), (by (intro z; rw [List.take_of_length_le (by omega)]; exact mem_addsL _ _ _))⟩, S⟩

set_option maxRecDepth 100000 in
set_option maxHeartbeats 4000000 in
theorem OS_Append {M : Hp} {v1 : Value} {l1 : List Int} (h1 : RdI M v1 l1){p9 b9 m9 : Nat} {l9 : List Int} (hn9 : l9.Nodup) (hb : l9.length + l1.length ≤ 1000000000000) :
    Sp Tryz.prog (.func (.func 160) #[] #[]) M [.pointer (some ⟨p9, 0, none⟩), v1] [blk p9 (.cells #[.int .i32 0, .int .u32 0, .int .u32 0, .int .u32 0, .int .i32 0, .int .i32 0, .pointer (some ⟨b9, 0, none⟩)] 144), blk b9 (.cells #[.map (some m9)] 145), OwnS m9 l9] (fun r M' C' => ∃ l_, C' = [blk p9 (.cells #[.int .i32 0, .int .u32 0, .int .u32 0, .int .u32 0, .int .i32 0, .int .i32 0, .pointer (some ⟨b9, 0, none⟩)] 144), blk b9 (.cells #[.map (some m9)] 145), OwnS m9 l_] ∧ r = .int .i64 (((l_.length : Nat) : Int) - ((l9.length : Nat) : Int)) ∧ (l_.Nodup) ∧ (∀ z, z ∈ l_ ↔ z ∈ l9 ∨ z ∈ l1)) := by
  refine Sp_enter Tryz.func160 rfl Tryz.ntmps160 rfl Tryz.call160 ?_
  intro a w M1 H hM1 S E
  replace S : St w M1 (blk p9 (.cells #[.int .i32 0, .int .u32 0, .int .u32 0, .int .u32 0, .int .i32 0, .int .i32 0, .pointer (some ⟨b9, 0, none⟩)] 144) :: blk b9 (.cells #[.map (some m9)] 145) :: OwnS m9 l9 :: _) := S
  replace h1 := h1.le hM1
  refine WP_seq ?_
  refine WP_region ?_
  refine S_v E rfl (R_assign E rfl) rfl ?_
  clear E a; intro a E
  refine WL_nil ?_
  refine T_n ?_
  refine WP_seq ?_
  refine WP_region ?_
  refine S_v E rfl (R_move E rfl) rfl ?_
  clear E a; intro a E
  refine S_v E rfl (R_nilCheck E rfl rfl) rfl ?_
  clear E a; intro a E
  refine S_v E rfl (R_fieldAddr E rfl (FA144_0 _)) rfl ?_
  clear E a; intro a E
  replace S : St w M1 (LK p9 144 0 (.pointer (some ⟨b9, 0, none⟩)) :: _) := S
  refine S_x (X_sp (p := [LK p9 144 0 (.pointer (some ⟨b9, 0, none⟩))]) E S rfl rfl rfl (wlock_sp Tryz.rwWLib (T := 144)) (Hp.le.refl _) ?_)
  clear E a S; rintro a _ w M_1 _ hM_1 ⟨rfl, rfl⟩ S E
  replace S : St w M_1 (blk p9 (.cells #[.int .i32 1, .int .u32 0, .int .u32 0, .int .u32 0, .int .i32 (-1073741824), .int .i32 0, .pointer (some ⟨b9, 0, none⟩)] 144) :: blk b9 (.cells #[.map (some m9)] 145) :: OwnS m9 l9 :: H) := S
  replace h1 := h1.le hM_1
  refine WL_nil ?_
  refine T_n ?_
  refine WP_seq ?_
  refine WP_region ?_
  refine S_v E rfl (R_move E rfl) rfl ?_
  clear E a; intro a E
  refine S_v E rfl (R_nilCheck E rfl rfl) rfl ?_
  clear E a; intro a E
  refine S_v E rfl (R_fieldAddr E rfl (FA144_1 _)) rfl ?_
  clear E a; intro a E
  refine S_v E rfl (R_load E rfl (Tryz.isAgg116 _) (cell_blkf (S.mem (.head _)) rfl)) rfl ?_
  clear E a; intro a E
  refine S_v E rfl (R_move E rfl) rfl ?_
  clear E a; intro a E
  replace S := S.front2
  replace S := S.front2
  refine S_x (X_sp (p := [blk b9 (.cells #[.map (some m9)] 145), OwnS m9 l9]) E S rfl rfl rfl (O_Append h1 (by first | assumption | exact List.nodup_nil | exact addsL_nodup _ _ (by assumption) | exact addsL_nodup _ _ List.nodup_nil) (by first | assumption | omega | (simp only [List.length_nil]; omega))) (Hp.le.refl _) ?_)
  clear E a S; rintro a _ w M_2 _ hM_2 ⟨l_3, rfl, rfl, hx_4, hx_5⟩ S E
  replace S : St w M_2 (blk b9 (.cells #[.map (some m9)] 145) :: OwnS m9 l_3 :: blk p9 (.cells #[.int .i32 1, .int .u32 0, .int .u32 0, .int .u32 0, .int .i32 (-1073741824), .int .i32 0, .pointer (some ⟨b9, 0, none⟩)] 144) :: H) := S
  replace h1 := h1.le hM_2
  refine S_v E rfl (R_assign E rfl) rfl ?_
  clear E a; intro a E
  refine WL_nil ?_
  refine T_n ?_
  refine WP_seq ?_
  refine WP_region ?_
  refine S_v E rfl (R_move E rfl) rfl ?_
  clear E a; intro a E
  refine S_v E rfl (R_nilCheck E rfl rfl) rfl ?_
  clear E a; intro a E
  refine S_v E rfl (R_fieldAddr E rfl (FA144_0 _)) rfl ?_
  clear E a; intro a E
  replace S := S.front2
  replace S : St w M_2 (LKw p9 144 (.pointer (some ⟨b9, 0, none⟩)) :: _) := S
  refine S_x (X_sp (p := [LKw p9 144 (.pointer (some ⟨b9, 0, none⟩))]) E S rfl rfl rfl (wunlock_sp Tryz.rwWLib (T := 144)) (Hp.le.refl _) ?_)
  clear E a S; rintro a _ w M_6 _ hM_6 ⟨rfl, rfl⟩ S E
  replace S : St w M_6 (blk p9 (.cells #[.int .i32 0, .int .u32 0, .int .u32 0, .int .u32 0, .int .i32 0, .int .i32 0, .pointer (some ⟨b9, 0, none⟩)] 144) :: blk b9 (.cells #[.map (some m9)] 145) :: OwnS m9 l_3 :: H) := S
  replace h1 := h1.le hM_6
  refine WL_nil ?_
  refine T_n ?_
  refine WP_seq ?_
  refine WP_region ?_
  refine S_v E rfl (R_move E rfl) rfl ?_
  clear E a; intro a E
  refine S_v E rfl (R_assign E rfl) rfl ?_
  clear E a; intro a E
  refine WL_nil ?_
  refine T_n ?_
  refine WP_ret ?_
  replace S := S.front2
  replace S := S.front2
  replace S := S.front2
  exact F_ret1 E Tryz.results160 rfl ⟨_, rfl, M_6, _, (hM_1.trans (hM_2.trans hM_6)), ⟨_, rfl, rfl, (by assumption), (by assumption)⟩, S⟩

set_option maxRecDepth 100000 in
set_option maxHeartbeats 4000000 in
theorem reg_Append {M : Hp} {x0 : Bool} {v : Value} {t : List RG} {i : Nat} {x : RG} {v1 : Value} {l1 : List Int} (hx : t[i]? = some x) (h1 : RdI M v1 l1) (hb1 : l1.length ≤ 1000000000) (hb : x.2.2.length ≤ 1000000000) :
    InvSp Tryz.prog (ifv KS x0 x) "Append" M [v1] [Regs KS x0 v t] (fun r _ C' => ∃ L D, C' = Regs KS x0 v (t.set i (x.w L)) :: D ∧ (L = setI (x.2.2 ++ l1) ∧ r = .int .i64 (((setI (x.2.2 ++ l1)).length : Nat) - ((card x.2.2 : Nat) : Int)) ∧ D = [])) := by
  refine reg_canon (Φ := fun r l' D => (∀ z, z ∈ l' ↔ z ∈ x.2.2 ∨ z ∈ l1) ∧ r = .int .i64 (((setI (x.2.2 ++ l1)).length : Nat) - ((card x.2.2 : Nat) : Int)) ∧ D = []) (reg_liftD hx ?_) fun r l' D ⟨h1, h2, h3⟩ => ⟨setI (x.2.2 ++ l1), fun z => (h1 z).trans (by simp only [mem_setI, mem_dif, List.mem_append, List.mem_singleton, List.not_mem_nil]), rfl, h2, h3⟩
  cases x0
  · exact mutU_ptr (fun p w => meth_116_Append p w) Tryz.call184 fun b m q hn hq => by have hql : q.length ≤ x.2.2.length := nodup_len hn fun z hz => (hq z).1 hz; exact spConv (O_Append (h1.le (Hp.le.refl _)) hn (by omega)) fun r M2 C ⟨l', h1, h2, h3, h4⟩ => ⟨l', [], h1, h3, fun z => (h4 z).trans (by rw [hq]), by rw [h2, card_eq hn hq, set_len (c := x.2.2 ++ l1) h3 fun z => (h4 z).trans (by rw [hq, List.mem_append])], rfl⟩
  · exact mutS (fun p w => meth_114_Append p w) Tryz.call160 fun b m q hn hq => by have hql : q.length ≤ x.2.2.length := nodup_len hn fun z hz => (hq z).1 hz; exact spConv (OS_Append (h1.le (Hp.le.refl _)) hn (by omega)) fun r M2 C ⟨l', h1, h2, h3, h4⟩ => ⟨l', [], h1, h3, fun z => (h4 z).trans (by rw [hq]), by rw [h2, card_eq hn hq, set_len (c := x.2.2 ++ l1) h3 fun z => (h4 z).trans (by rw [hq, List.mem_append])], rfl⟩

set_option maxRecDepth 100000 in
set_option maxHeartbeats 4000000 in
theorem O_Remove {M : Hp} {m9 : Nat} {l9 : List Int} {x0 : Int} (hn9 : l9.Nodup)  :
    Sp Tryz.prog (.func (.func 212) #[] #[]) M [.map (some m9), .int .i64 x0] [OwnS m9 l9] (fun r M' C' => ∃ l_, C' = [OwnS m9 l_] ∧ r = .tuple #[] ∧ (l_.Nodup) ∧ (∀ z, z ∈ l_ ↔ z ∈ l9 ∧ z ≠ x0)) := by
  refine Sp_enter Tryz.func212 rfl Tryz.ntmps212 rfl Tryz.call212 ?_
  intro a w M1 H hM1 S E
  replace S : St w M1 (OwnS m9 l9 :: _) := S
  refine WP_region ?_
  refine S_v E rfl (R_move E rfl) rfl ?_
  clear E a; intro a E
  refine S_v E rfl (R_move E rfl) rfl ?_
  clear E a; intro a E
  refine S_x0 (X_delete0S E S MT145 rfl rfl ?_)
  clear E a S; rintro a w E S
  refine WL_nil ?_
  refine F_nrm ?_
  exact F_ret0 E Tryz.results212 ⟨_, rfl, M1, _, (Hp.le.refl _), ⟨_, rfl, rfl, (by (exact hn9.filter _)), (by (intro z; simp))⟩, S⟩

set_option maxRecDepth 100000 in
set_option maxHeartbeats 4000000 in
theorem OS_Remove {M : Hp} {p9 b9 m9 : Nat} {l9 : List Int} {x0 : Int} (hn9 : l9.Nodup)  :
    Sp Tryz.prog (.func (.func 179) #[] #[]) M [.pointer (some ⟨p9, 0, none⟩), .int .i64 x0] [blk p9 (.cells #[.int .i32 0, .int .u32 0, .int .u32 0, .int .u32 0, .int .i32 0, .int .i32 0, .pointer (some ⟨b9, 0, none⟩)] 144), blk b9 (.cells #[.map (some m9)] 145), OwnS m9 l9] (fun r M' C' => ∃ l_, C' = [blk p9 (.cells #[.int .i32 0, .int .u32 0, .int .u32 0, .int .u32 0, .int .i32 0, .int .i32 0, .pointer (some ⟨b9, 0, none⟩)] 144), blk b9 (.cells #[.map (some m9)] 145), OwnS m9 l_] ∧ r = .tuple #[] ∧ (l_.Nodup) ∧ (∀ z, z ∈ l_ ↔ z ∈ l9 ∧ z ≠ x0)) := by
  refine Sp_enter Tryz.func179 rfl Tryz.ntmps179 rfl Tryz.call179 ?_
  intro a w M1 H hM1 S E
  replace S : St w M1 (blk p9 (.cells #[.int .i32 0, .int .u32 0, .int .u32 0, .int .u32 0, .int .i32 0, .int .i32 0, .pointer (some ⟨b9, 0, none⟩)] 144) :: blk b9 (.cells #[.map (some m9)] 145) :: OwnS m9 l9 :: _) := S
  refine WP_seq ?_
  refine WP_region ?_
  refine S_v E rfl (R_move E rfl) rfl ?_
  clear E a; intro a E
  refine S_v E rfl (R_nilCheck E rfl rfl) rfl ?_
  clear E a; intro a E
  refine S_v E rfl (R_fieldAddr E rfl (FA144_0 _)) rfl ?_
  clear E a; intro a E
  replace S : St w M1 (LK p9 144 0 (.pointer (some ⟨b9, 0, none⟩)) :: _) := S
  refine S_x (X_sp (p := [LK p9 144 0 (.pointer (some ⟨b9, 0, none⟩))]) E S rfl rfl rfl (wlock_sp Tryz.rwWLib (T := 144)) (Hp.le.refl _) ?_)
  clear E a S; rintro a _ w M_1 _ hM_1 ⟨rfl, rfl⟩ S E
  replace S : St w M_1 (blk p9 (.cells #[.int .i32 1, .int .u32 0, .int .u32 0, .int .u32 0, .int .i32 (-1073741824), .int .i32 0, .pointer (some ⟨b9, 0, none⟩)] 144) :: blk b9 (.cells #[.map (some m9)] 145) :: OwnS m9 l9 :: H) := S
  refine WL_nil ?_
  refine T_n ?_
  refine WP_seq ?_
  refine WP_region ?_
  refine S_v E rfl (R_move E rfl) rfl ?_
  clear E a; intro a E
  refine S_v E rfl (R_nilCheck E rfl rfl) rfl ?_
  clear E a; intro a E
  refine S_v E rfl (R_fieldAddr E rfl (FA144_1 _)) rfl ?_
  clear E a; intro a E
  refine S_v E rfl (R_load E rfl (Tryz.isAgg116 _) (cell_blkf (S.mem (.head _)) rfl)) rfl ?_
  clear E a; intro a E
  refine S_v E rfl (R_nilCheck E rfl rfl) rfl ?_
  clear E a; intro a E
  refine S_v E rfl (R_load E rfl (Tryz.isAgg145 _) (cell_blk (S.mem (.tail _ (.head _))))) rfl ?_
  clear E a; intro a E
  refine S_v E rfl (R_move E rfl) rfl ?_
  clear E a; intro a E
  replace S := S.front2
  refine S_x0 (X_delete0S E S MT145 rfl rfl ?_)
  clear E a S; rintro a w E S
  refine WL_nil ?_
  refine T_n ?_
  refine WP_region ?_
  refine S_v E rfl (R_move E rfl) rfl ?_
  clear E a; intro a E
  refine S_v E rfl (R_nilCheck E rfl rfl) rfl ?_
  clear E a; intro a E
  refine S_v E rfl (R_fieldAddr E rfl (FA144_0 _)) rfl ?_
  clear E a; intro a E
  replace S := S.front1
  replace S : St w M_1 (LKw p9 144 (.pointer (some ⟨b9, 0, none⟩)) :: _) := S
  refine S_x (X_sp (p := [LKw p9 144 (.pointer (some ⟨b9, 0, none⟩))]) E S rfl rfl rfl (wunlock_sp Tryz.rwWLib (T := 144)) (Hp.le.refl _) ?_)
  clear E a S; rintro a _ w M_2 _ hM_2 ⟨rfl, rfl⟩ S E
  replace S : St w M_2 (blk p9 (.cells #[.int .i32 0, .int .u32 0, .int .u32 0, .int .u32 0, .int .i32 0, .int .i32 0, .pointer (some ⟨b9, 0, none⟩)] 144) :: OwnS m9 ((l9).filter (fun q_ => decide (q_ ≠ x0))) :: blk b9 (.cells #[.map (some m9)] 145) :: H) := S
  refine WL_nil ?_
  refine F_nrm ?_
  replace S := S.front1
  replace S := S.front2
  replace S := S.front2
  exact F_ret0 E Tryz.results179 ⟨_, rfl, M_2, _, (hM_1.trans hM_2), ⟨_, rfl, rfl, (by (exact hn9.filter _)), (by (intro z; simp))⟩, S⟩

set_option maxRecDepth 100000 in
set_option maxHeartbeats 4000000 in
theorem reg_Remove {M : Hp} {x0 : Bool} {v : Value} {t : List RG} {i : Nat} {x : RG} {a : Int} (hx : t[i]? = some x) :
    InvSp Tryz.prog (ifv KS x0 x) "Remove" M [.int .i64 a] [Regs KS x0 v t] (fun r _ C' => ∃ L D, C' = Regs KS x0 v (t.set i (x.w L)) :: D ∧ (L = setDif x.2.2 [a] ∧ r = .tuple #[] ∧ D = [])) := by
  refine reg_canon (Φ := fun r l' D => (∀ z, z ∈ l' ↔ z ∈ x.2.2 ∧ z ≠ a) ∧ r = .tuple #[] ∧ D = []) (reg_liftD hx ?_) fun r l' D ⟨h1, h2, h3⟩ => ⟨setDif x.2.2 [a], fun z => (h1 z).trans (by simp only [mem_setI, mem_dif, List.mem_append, List.mem_singleton, List.not_mem_nil]), rfl, h2, h3⟩
  cases x0
  · exact mutU_val (fun b v w h => meth_116_Remove rfl h) Tryz.call212 fun m q hn hq => by exact spConv (O_Remove hn) fun r M2 C ⟨l', h1, h2, h3, h4⟩ => ⟨l', [], h1, h3, fun z => (h4 z).trans (by rw [hq]), h2, rfl⟩
  · exact mutS (fun p w => meth_114_Remove p w) Tryz.call179 fun b m q hn hq => by exact spConv (OS_Remove hn) fun r M2 C ⟨l', h1, h2, h3, h4⟩ => ⟨l', [], h1, h3, fun z => (h4 z).trans (by rw [hq]), h2, rfl⟩

set_option maxRecDepth 100000 in
set_option maxHeartbeats 4000000 in
theorem O_RemoveAll {M : Hp} {v1 : Value} {l1 : List Int} (h1 : RdI M v1 l1){m9 : Nat} {l9 : List Int} (hn9 : l9.Nodup)  :
    Sp Tryz.prog (.func (.func 200) #[] #[]) M [.map (some m9), v1] [OwnS m9 l9] (fun r M' C' => ∃ l_, C' = [OwnS m9 l_] ∧ r = .tuple #[] ∧ (l_.Nodup) ∧ (∀ z, z ∈ l_ ↔ z ∈ l9 ∧ z ∉ l1)) := by
  refine Sp_enter Tryz.func200 rfl Tryz.ntmps200 rfl Tryz.call200 ?_
  intro a w M1 H hM1 S E
  replace S : St w M1 (OwnS m9 l9 :: _) := S
  replace h1 := h1.le hM1
  have b1 := h1.bound
  refine WP_seq ?_
  refine WP_region ?_
  refine S_v E rfl (R_move E rfl) rfl ?_
  clear E a; intro a E
  refine S_v E rfl (R_lenV E rfl T22 h1.len) rfl ?_
  clear E a; intro a E
  refine S_v E rfl (R_move E rfl) rfl ?_
  clear E a; intro a E
  refine WL_nil ?_
  refine T_n ?_
  refine WP_block ?_
  replace S := S.reM (L' := (Sl.encS (l9.filter (fun z => decide (z ∉ l1.take 0))))) (congrArg Sl.encS (show l9 = l9.filter (fun z => decide (z ∉ l1.take 0)) by first | rfl | exact (cl_nil _).symm | exact rm_snoc (by assumption)))
  refine WP_loop (γ := Nat) (fun (k : Nat) a w => ∃ (M_1 : Hp), Hp.le M1 M_1 ∧ St w M_1 (OwnS m9 (l9.filter (fun z => decide (z ∉ l1.take k))) :: H) ∧ Env a 15 [] [(0, .map (some m9)), (6, v1), (7, .int .i64 (((l1).length : Nat) : Int)), (8, .int .i64 ((k : Nat) : Int))] ∧ (k ≤ (l1).length)) (fun k => ((l1).length) - k) 0 ⟨M1, Hp.le.refl _, S, E.keep ⟨rfl, rfl, rfl, rfl, trivial⟩, by ((try clear S); (try clear E); first | assumption | omega | rfl | (simp; done) | (simp_all; done) | (simp [List.take_add_one, *]; done) | grind [List.take_add_one])⟩ ?_
  try clear E
  try clear S
  try clear a
  try clear w
  rintro k a w ⟨M_1, hM_1, S, E, hL0_0⟩
  replace h1 := h1.le hM_1
  refine WP_seq ?_
  refine WP_region ?_
  refine S_v E rfl (R_lss E rfl rfl) rfl ?_
  clear E a; intro a E
  refine WL_nil ?_
  refine T_n ?_
  refine WP_seq ?_
  refine WP_cond E rfl (fun hc_2 => ?_) (fun hc_2 => ?_)
  · replace hc_2 := of_decide_eq_true hc_2
    refine WP_skip ?_
    refine T_n ?_
    refine WP_seq ?_
    refine WP_block ?_
    refine WP_seq ?_
    refine WP_region ?_
    obtain ⟨x_3, hx_3⟩ : ∃ x, (l1)[k]? = some x := ⟨_, List.getElem?_eq_getElem (by first | omega | (simp; done) | (simp; omega) | (simp_all; omega))⟩
    obtain ⟨p_4, hp_4, qp_4⟩ := h1.at hx_3
    refine S_v E rfl (R_idx E rfl rfl T22 hp_4 rfl) rfl ?_
    clear E a; intro a E
    refine S_v E rfl (R_loadM E rfl Tryz.isAgg3 S.imm qp_4) rfl ?_
    clear E a; intro a E
    refine S_v E rfl (R_assign E rfl) rfl ?_
    clear E a; intro a E
    refine WL_nil ?_
    refine T_n ?_
    refine WP_region ?_
    refine S_v E rfl (R_move E rfl) rfl ?_
    clear E a; intro a E
    refine S_v E rfl (R_move E rfl) rfl ?_
    clear E a; intro a E
    refine S_x0 (X_delete0S E S MT145 rfl rfl ?_)
    clear E a S; rintro a w E S
    refine WL_nil ?_
    refine B_n ?_
    refine T_n ?_
    refine WP_region ?_
    refine S_v E rfl (R_addx (m := ((k + 1 : Nat) : Int)) E rfl rfl (by omega) (by omega)) rfl ?_
    clear E a; intro a E
    refine S_v E rfl (R_move E rfl) rfl ?_
    clear E a; intro a E
    refine WL_nil ?_
    refine T_n ?_
    replace S := S.reM (L' := (Sl.encS (l9.filter (fun z => decide (z ∉ l1.take (k + 1)))))) (congrArg Sl.encS (show (l9.filter (fun z => decide (z ∉ l1.take k))).filter (fun q_ => decide (q_ ≠ x_3)) = l9.filter (fun z => decide (z ∉ l1.take (k + 1))) by first | rfl | exact (cl_nil _).symm | exact rm_snoc (by assumption)))
    exact ⟨k + 1, ⟨M_1, hM_1, S, E.keep ⟨rfl, rfl, rfl, rfl, trivial⟩, by ((try clear S); (try clear E); first | assumption | omega | rfl | (simp; done) | (simp_all; done) | (simp [List.take_add_one, *]; done) | grind [List.take_add_one])⟩, by omega⟩
  · replace hc_2 := of_decide_eq_false hc_2
    refine WP_exit ?_
    refine T_x ?_
    refine T_x ?_
    refine B_x ?_
    refine F_nrm ?_
    exact F_ret0 E Tryz.results200 ⟨_, rfl, M_1, _, hM_1, ⟨_, rfl, rfl, (by (exact hn9.filter _)), (by (intro z; rw [List.take_of_length_le (by omega)]; simp))⟩, S⟩

set_option maxRecDepth 100000 in
set_option maxHeartbeats 4000000 in
theorem OS_RemoveAll {M : Hp} {v1 : Value} {l1 : List Int} (h1 : RdI M v1 l1){p9 b9 m9 : Nat} {l9 : List Int} (hn9 : l9.Nodup)  :
    Sp Tryz.prog (.func (.func 180) #[] #[]) M [.pointer (some ⟨p9, 0, none⟩), v1] [blk p9 (.cells #[.int .i32 0, .int .u32 0, .int .u32 0, .int .u32 0, .int .i32 0, .int .i32 0, .pointer (some ⟨b9, 0, none⟩)] 144), blk b9 (.cells #[.map (some m9)] 145), OwnS m9 l9] (fun r M' C' => ∃ l_, C' = [blk p9 (.cells #[.int .i32 0, .int .u32 0, .int .u32 0, .int .u32 0, .int .i32 0, .int .i32 0, .pointer (some ⟨b9, 0, none⟩)] 144), blk b9 (.cells #[.map (some m9)] 145), OwnS m9 l_] ∧ r = .tuple #[] ∧ (l_.Nodup) ∧ (∀ z, z ∈ l_ ↔ z ∈ l9 ∧ z ∉ l1)) := by
  refine Sp_enter Tryz.func180 rfl Tryz.ntmps180 rfl Tryz.call180 ?_
  intro a w M1 H hM1 S E
  replace S : St w M1 (blk p9 (.cells #[.int .i32 0, .int .u32 0, .int .u32 0, .int .u32 0, .int .i32 0, .int .i32 0, .pointer (some ⟨b9, 0, none⟩)] 144) :: blk b9 (.cells #[.map (some m9)] 145) :: OwnS m9 l9 :: _) := S
  replace h1 := h1.le hM1
  refine WP_seq ?_
  refine WP_region ?_
  refine S_v E rfl (R_move E rfl) rfl ?_
  clear E a; intro a E
  refine S_v E rfl (R_nilCheck E rfl rfl) rfl ?_
  clear E a; intro a E
  refine S_v E rfl (R_fieldAddr E rfl (FA144_0 _)) rfl ?_
  clear E a; intro a E
  replace S : St w M1 (LK p9 144 0 (.pointer (some ⟨b9, 0, none⟩)) :: _) := S
  refine S_x (X_sp (p := [LK p9 144 0 (.pointer (some ⟨b9, 0, none⟩))]) E S rfl rfl rfl (wlock_sp Tryz.rwWLib (T := 144)) (Hp.le.refl _) ?_)
  clear E a S; rintro a _ w M_1 _ hM_1 ⟨rfl, rfl⟩ S E
  replace S : St w M_1 (blk p9 (.cells #[.int .i32 1, .int .u32 0, .int .u32 0, .int .u32 0, .int .i32 (-1073741824), .int .i32 0, .pointer (some ⟨b9, 0, none⟩)] 144) :: blk b9 (.cells #[.map (some m9)] 145) :: OwnS m9 l9 :: H) := S
  replace h1 := h1.le hM_1
  refine WL_nil ?_
  refine T_n ?_
  refine WP_seq ?_
  refine WP_region ?_
  refine S_v E rfl (R_move E rfl) rfl ?_
  clear E a; intro a E
  refine S_v E rfl (R_nilCheck E rfl rfl) rfl ?_
  clear E a; intro a E
  refine S_v E rfl (R_fieldAddr E rfl (FA144_1 _)) rfl ?_
  clear E a; intro a E
  refine S_v E rfl (R_load E rfl (Tryz.isAgg116 _) (cell_blkf (S.mem (.head _)) rfl)) rfl ?_
  clear E a; intro a E
  refine S_v E rfl (R_nilCheck E rfl rfl) rfl ?_
  clear E a; intro a E
  refine S_v E rfl (R_load E rfl (Tryz.isAgg145 _) (cell_blk (S.mem (.tail _ (.head _))))) rfl ?_
  clear E a; intro a E
  refine S_v E rfl (R_move E rfl) rfl ?_
  clear E a; intro a E
  replace S := S.front2
  refine S_x (X_sp (p := [OwnS m9 l9]) E S rfl rfl rfl (O_RemoveAll h1 (by first | assumption | exact List.nodup_nil | exact addsL_nodup _ _ (by assumption) | exact addsL_nodup _ _ List.nodup_nil)) (Hp.le.refl _) ?_)
  clear E a S; rintro a _ w M_2 _ hM_2 ⟨l_3, rfl, rfl, hx_4, hx_5⟩ S E
  replace S : St w M_2 (OwnS m9 l_3 :: blk p9 (.cells #[.int .i32 1, .int .u32 0, .int .u32 0, .int .u32 0, .int .i32 (-1073741824), .int .i32 0, .pointer (some ⟨b9, 0, none⟩)] 144) :: blk b9 (.cells #[.map (some m9)] 145) :: H) := S
  replace h1 := h1.le hM_2
  refine WL_nil ?_
  refine T_n ?_
  refine WP_region ?_
  refine S_v E rfl (R_move E rfl) rfl ?_
  clear E a; intro a E
  refine S_v E rfl (R_nilCheck E rfl rfl) rfl ?_
  clear E a; intro a E
  refine S_v E rfl (R_fieldAddr E rfl (FA144_0 _)) rfl ?_
  clear E a; intro a E
  replace S := S.front1
  replace S : St w M_2 (LKw p9 144 (.pointer (some ⟨b9, 0, none⟩)) :: _) := S
  refine S_x (X_sp (p := [LKw p9 144 (.pointer (some ⟨b9, 0, none⟩))]) E S rfl rfl rfl (wunlock_sp Tryz.rwWLib (T := 144)) (Hp.le.refl _) ?_)
  clear E a S; rintro a _ w M_6 _ hM_6 ⟨rfl, rfl⟩ S E
  replace S : St w M_6 (blk p9 (.cells #[.int .i32 0, .int .u32 0, .int .u32 0, .int .u32 0, .int .i32 0, .int .i32 0, .pointer (some ⟨b9, 0, none⟩)] 144) :: OwnS m9 l_3 :: blk b9 (.cells #[.map (some m9)] 145) :: H) := S
  replace h1 := h1.le hM_6
  refine WL_nil ?_
  refine F_nrm ?_
  replace S := S.front1
  replace S := S.front2
  replace S := S.front2
  exact F_ret0 E Tryz.results180 ⟨_, rfl, M_6, _, (hM_1.trans (hM_2.trans hM_6)), ⟨_, rfl, rfl, (by assumption), (by assumption)⟩, S⟩

set_option maxRecDepth 100000 in
set_option maxHeartbeats 4000000 in
theorem reg_RemoveAll {M : Hp} {x0 : Bool} {v : Value} {t : List RG} {i : Nat} {x : RG} {v1 : Value} {l1 : List Int} (hx : t[i]? = some x) (h1 : RdI M v1 l1) :
    InvSp Tryz.prog (ifv KS x0 x) "RemoveAll" M [v1] [Regs KS x0 v t] (fun r _ C' => ∃ L D, C' = Regs KS x0 v (t.set i (x.w L)) :: D ∧ (L = setDif x.2.2 l1 ∧ r = .tuple #[] ∧ D = [])) := by
  refine reg_canon (Φ := fun r l' D => (∀ z, z ∈ l' ↔ z ∈ x.2.2 ∧ z ∉ l1) ∧ r = .tuple #[] ∧ D = []) (reg_liftD hx ?_) fun r l' D ⟨h1, h2, h3⟩ => ⟨setDif x.2.2 l1, fun z => (h1 z).trans (by simp only [mem_setI, mem_dif, List.mem_append, List.mem_singleton, List.not_mem_nil]), rfl, h2, h3⟩
  cases x0
  · exact mutU_val (fun b v w h => meth_116_RemoveAll rfl h) Tryz.call200 fun m q hn hq => by exact spConv (O_RemoveAll h1 hn) fun r M2 C ⟨l', h1, h2, h3, h4⟩ => ⟨l', [], h1, h3, fun z => (h4 z).trans (by rw [hq]), h2, rfl⟩
  · exact mutS (fun p w => meth_114_RemoveAll p w) Tryz.call180 fun b m q hn hq => by exact spConv (OS_RemoveAll h1 hn) fun r M2 C ⟨l', h1, h2, h3, h4⟩ => ⟨l', [], h1, h3, fun z => (h4 z).trans (by rw [hq]), h2, rfl⟩

set_option maxRecDepth 100000 in
set_option maxHeartbeats 4000000 in
theorem O_Clear {M : Hp} {b9 m9 : Nat} {l9 : List Int} (hn9 : l9.Nodup)  :
    Sp Tryz.prog (.func (.func 187) #[] #[]) M [.pointer (some ⟨b9, 0, none⟩)] [blk b9 (.cells #[.map (some m9)] 145), OwnS m9 l9] (fun r M' C' => C' = [blk b9 (.cells #[.map (some m9)] 145), OwnS m9 ([] : List Int)] ∧ r = .tuple #[]) := by
  refine Sp_enter Tryz.func187 rfl Tryz.ntmps187 rfl Tryz.call187 ?_
  intro a w M1 H hM1 S E
  replace S : St w M1 (blk b9 (.cells #[.map (some m9)] 145) :: OwnS m9 l9 :: _) := S
  refine WP_seq ?_
  refine WP_region ?_
  refine S_v E rfl (R_move E rfl) rfl ?_
  clear E a; intro a E
  refine S_v E rfl (R_nilCheck E rfl rfl) rfl ?_
  clear E a; intro a E
  refine S_v E rfl (R_load E rfl (Tryz.isAgg145 _) (cell_blk (S.mem (.head _)))) rfl ?_
  clear E a; intro a E
  replace S := S.front1
  refine S_x (X_rangeW E S rfl MT145 rfl ?_)
  clear E a S; rintro a w i_1 E S
  replace S : St w M1 (ItW m9 i_1 (Sl.encS l9) ([] : List Int) none :: _) := S
  refine WL_nil ?_
  refine T_n ?_
  refine WP_block ?_
  replace S := S.reW (L' := (Sl.encS (l9.filter (fun z => decide (z ∉ []))))) (D' := []) (congrArg Sl.encS (show l9 = l9.filter (fun z => decide (z ∉ [])) by first | rfl | exact (cl_nil _).symm | exact cl_snoc _ _ _)) (show ([] : List Int) = [] by first | rfl | (simp; done))
  refine WP_loop (γ := List Int) (fun (p : List Int) a w => ∃ (M_2 : Hp), Hp.le M1 M_2 ∧ St w M_2 (ItW m9 i_1 (Sl.encS (l9.filter (fun z => decide (z ∉ p)))) p none :: blk b9 (.cells #[.map (some m9)] 145) :: H) ∧ Env a 15 [] [(0, .pointer (some ⟨b9, 0, none⟩)), (6, .pointer (some ⟨i_1, 0, none⟩))] ∧ (p.Nodup) ∧ (∀ z ∈ p, z ∈ l9)) (fun p => l9.length - p.length) [] ⟨M1, Hp.le.refl _, S, E.keep ⟨rfl, rfl, trivial⟩, (by simp), (by simp)⟩ ?_
  try clear E
  try clear S
  try clear a
  try clear w
  rintro p a w ⟨M_2, hM_2, S, E, hL0_0, hL0_1⟩
  refine WP_seq ?_
  refine WP_region ?_
  refine S_x (X_nextWS E S rfl rfl ?_ ?_)
  · clear E a S; rintro a E hpm_3 S
    refine S_v E rfl (R_extract E rfl rfl) rfl ?_
    clear E a; intro a E
    refine WL_nil ?_
    refine T_n ?_
    refine WP_seq ?_
    refine WP_condF E rfl rfl ?_
    refine WP_exit ?_
    refine T_x ?_
    refine T_x ?_
    refine B_x ?_
    refine F_nrm ?_
    replace S := S.reM (L' := (Sl.encS ([] : List Int))) (congrArg Sl.encS (show l9.filter (fun z => decide (z ∉ p)) = ([] : List Int) by exact cl_empty (by assumption)))
    replace S := S.front1
    exact F_ret0 E Tryz.results187 ⟨_, rfl, M_2, _, hM_2, ⟨rfl, rfl⟩, S⟩
  · clear E a S w; rintro a w k_4 E hk_5 hk_5n S
    refine S_v E rfl (R_extract E rfl rfl) rfl ?_
    clear E a; intro a E
    refine WL_nil ?_
    refine T_n ?_
    refine WP_seq ?_
    refine WP_condT E rfl rfl ?_
    refine WP_skip ?_
    refine T_n ?_
    refine WP_block ?_
    refine WP_seq ?_
    refine WP_region ?_
    refine S_v E rfl (R_entryW E S rfl) rfl ?_
    clear E a; intro a E
    refine S_v E rfl (R_extract E rfl rfl) rfl ?_
    clear E a; intro a E
    refine S_v E rfl (R_assign E rfl) rfl ?_
    clear E a; intro a E
    refine WL_nil ?_
    refine T_n ?_
    refine WP_region ?_
    refine S_v E rfl (R_move E rfl) rfl ?_
    clear E a; intro a E
    refine S_v E rfl (R_nilCheck E rfl rfl) rfl ?_
    clear E a; intro a E
    refine S_v E rfl (R_load E rfl (Tryz.isAgg145 _) (cell_blk (S.mem (.tail _ (.head _))))) rfl ?_
    clear E a; intro a E
    refine S_v E rfl (R_move E rfl) rfl ?_
    clear E a; intro a E
    refine S_x0 (X_delete0WS E S MT145 rfl rfl ?_)
    clear E a S; rintro a w E S
    refine WL_nil ?_
    refine B_n ?_
    refine T_n ?_
    replace S := S.reW (L' := (Sl.encS (l9.filter (fun z => decide (z ∉ (p ++ [k_4])))))) (D' := (p ++ [k_4])) (congrArg Sl.encS (show (l9.filter (fun z => decide (z ∉ p))).filter (fun q_ => decide (q_ ≠ k_4)) = l9.filter (fun z => decide (z ∉ (p ++ [k_4]))) by first | rfl | exact (cl_nil _).symm | exact cl_snoc _ _ _)) (show p ++ [k_4] = (p ++ [k_4]) by first | rfl | (simp; done))
    exact ⟨((p ++ [k_4])), ⟨M_2, hM_2, S, E.keep ⟨rfl, rfl, trivial⟩, (by exact pn_step (l := l9) (by assumption) (by assumption)), (by exact pn_sub (by assumption) (by assumption))⟩, (by have hlt := pn_lt hn9 (by assumption) (by assumption) (by assumption); simp; omega)⟩

set_option maxRecDepth 100000 in
set_option maxHeartbeats 4000000 in
theorem OS_Clear {M : Hp} {p9 b9 m9 : Nat} {l9 : List Int} (hn9 : l9.Nodup)  :
    Sp Tryz.prog (.func (.func 162) #[] #[]) M [.pointer (some ⟨p9, 0, none⟩)] [blk p9 (.cells #[.int .i32 0, .int .u32 0, .int .u32 0, .int .u32 0, .int .i32 0, .int .i32 0, .pointer (some ⟨b9, 0, none⟩)] 144), blk b9 (.cells #[.map (some m9)] 145), OwnS m9 l9] (fun r M' C' => C' = [blk p9 (.cells #[.int .i32 0, .int .u32 0, .int .u32 0, .int .u32 0, .int .i32 0, .int .i32 0, .pointer (some ⟨b9, 0, none⟩)] 144), blk b9 (.cells #[.map (some m9)] 145), OwnS m9 ([] : List Int)] ∧ r = .tuple #[]) := by
  refine Sp_enter Tryz.func162 rfl Tryz.ntmps162 rfl Tryz.call162 ?_
  intro a w M1 H hM1 S E
  replace S : St w M1 (blk p9 (.cells #[.int .i32 0, .int .u32 0, .int .u32 0, .int .u32 0, .int .i32 0, .int .i32 0, .pointer (some ⟨b9, 0, none⟩)] 144) :: blk b9 (.cells #[.map (some m9)] 145) :: OwnS m9 l9 :: _) := S
  refine WP_seq ?_
  refine WP_region ?_
  refine S_v E rfl (R_move E rfl) rfl ?_
  clear E a; intro a E
  refine S_v E rfl (R_nilCheck E rfl rfl) rfl ?_
  clear E a; intro a E
  refine S_v E rfl (R_fieldAddr E rfl (FA144_0 _)) rfl ?_
  clear E a; intro a E
  replace S : St w M1 (LK p9 144 0 (.pointer (some ⟨b9, 0, none⟩)) :: _) := S
  refine S_x (X_sp (p := [LK p9 144 0 (.pointer (some ⟨b9, 0, none⟩))]) E S rfl rfl rfl (wlock_sp Tryz.rwWLib (T := 144)) (Hp.le.refl _) ?_)
  clear E a S; rintro a _ w M_1 _ hM_1 ⟨rfl, rfl⟩ S E
  replace S : St w M_1 (blk p9 (.cells #[.int .i32 1, .int .u32 0, .int .u32 0, .int .u32 0, .int .i32 (-1073741824), .int .i32 0, .pointer (some ⟨b9, 0, none⟩)] 144) :: blk b9 (.cells #[.map (some m9)] 145) :: OwnS m9 l9 :: H) := S
  refine WL_nil ?_
  refine T_n ?_
  refine WP_seq ?_
  refine WP_region ?_
  refine S_v E rfl (R_move E rfl) rfl ?_
  clear E a; intro a E
  refine S_v E rfl (R_nilCheck E rfl rfl) rfl ?_
  clear E a; intro a E
  refine S_v E rfl (R_fieldAddr E rfl (FA144_1 _)) rfl ?_
  clear E a; intro a E
  refine S_v E rfl (R_load E rfl (Tryz.isAgg116 _) (cell_blkf (S.mem (.head _)) rfl)) rfl ?_
  clear E a; intro a E
  replace S := S.front2
  replace S := S.front2
  refine S_x (X_sp (p := [blk b9 (.cells #[.map (some m9)] 145), OwnS m9 l9]) E S rfl rfl rfl (O_Clear (by first | assumption | exact List.nodup_nil | exact addsL_nodup _ _ (by assumption) | exact addsL_nodup _ _ List.nodup_nil)) (Hp.le.refl _) ?_)
  clear E a S; rintro a _ w M_2 _ hM_2 ⟨rfl, rfl⟩ S E
  replace S : St w M_2 (blk b9 (.cells #[.map (some m9)] 145) :: OwnS m9 ([] : List Int) :: blk p9 (.cells #[.int .i32 1, .int .u32 0, .int .u32 0, .int .u32 0, .int .i32 (-1073741824), .int .i32 0, .pointer (some ⟨b9, 0, none⟩)] 144) :: H) := S
  refine WL_nil ?_
  refine T_n ?_
  refine WP_region ?_
  refine S_v E rfl (R_move E rfl) rfl ?_
  clear E a; intro a E
  refine S_v E rfl (R_nilCheck E rfl rfl) rfl ?_
  clear E a; intro a E
  refine S_v E rfl (R_fieldAddr E rfl (FA144_0 _)) rfl ?_
  clear E a; intro a E
  replace S := S.front2
  replace S : St w M_2 (LKw p9 144 (.pointer (some ⟨b9, 0, none⟩)) :: _) := S
  refine S_x (X_sp (p := [LKw p9 144 (.pointer (some ⟨b9, 0, none⟩))]) E S rfl rfl rfl (wunlock_sp Tryz.rwWLib (T := 144)) (Hp.le.refl _) ?_)
  clear E a S; rintro a _ w M_3 _ hM_3 ⟨rfl, rfl⟩ S E
  replace S : St w M_3 (blk p9 (.cells #[.int .i32 0, .int .u32 0, .int .u32 0, .int .u32 0, .int .i32 0, .int .i32 0, .pointer (some ⟨b9, 0, none⟩)] 144) :: blk b9 (.cells #[.map (some m9)] 145) :: OwnS m9 ([] : List Int) :: H) := S
  refine WL_nil ?_
  refine F_nrm ?_
  replace S := S.front2
  replace S := S.front2
  replace S := S.front2
  exact F_ret0 E Tryz.results162 ⟨_, rfl, M_3, _, (hM_1.trans (hM_2.trans hM_3)), ⟨rfl, rfl⟩, S⟩

set_option maxRecDepth 100000 in
set_option maxHeartbeats 4000000 in
theorem reg_Clear {M : Hp} {x0 : Bool} {v : Value} {t : List RG} {i : Nat} {x : RG} (hx : t[i]? = some x) :
    InvSp Tryz.prog (ifv KS x0 x) "Clear" M [] [Regs KS x0 v t] (fun r _ C' => ∃ L D, C' = Regs KS x0 v (t.set i (x.w L)) :: D ∧ (L = [] ∧ r = .tuple #[] ∧ D = [])) := by
  refine reg_canon (Φ := fun r l' D => (∀ z, z ∈ l' ↔ False) ∧ r = .tuple #[] ∧ D = []) (reg_liftD hx ?_) fun r l' D ⟨h1, h2, h3⟩ => ⟨[], fun z => (h1 z).trans (by simp only [mem_setI, mem_dif, List.mem_append, List.mem_singleton, List.not_mem_nil]), rfl, h2, h3⟩
  cases x0
  · exact mutU_ptr (fun p w => meth_116_Clear p w) Tryz.call187 fun b m q hn hq => spConv (O_Clear hn) fun r M2 C ⟨h1, h2⟩ => ⟨[], [], h1, List.nodup_nil, fun z => by simp, h2, rfl⟩
  · exact mutS (fun p w => meth_114_Clear p w) Tryz.call162 fun b m q hn hq => spConv (OS_Clear hn) fun r M2 C ⟨h1, h2⟩ => ⟨[], [], h1, List.nodup_nil, fun z => by simp, h2, rfl⟩

set_option maxRecDepth 100000 in
set_option maxHeartbeats 4000000 in
theorem U_Cardinality {M : Hp} {v0 : Value} {c0 : List Int} (h0 : RdSU 145 M v0 c0) (b0 : c0.length ≤ 1000000000)  :
    Pu Tryz.prog (.func (.func 205) #[] #[]) M [v0] (fun r M' => r = .int .i64 ((card c0 : Nat) : Int)) := by
  refine Pu_enter Tryz.func205 rfl Tryz.ntmps205 rfl Tryz.call205 ?_
  intro a w M1 H hM1 S E
  replace h0 := h0.le hM1
  refine WP_seq ?_
  refine WP_region ?_
  refine S_v E rfl (R_assign E rfl) rfl ?_
  clear E a; intro a E
  refine WL_nil ?_
  refine T_n ?_
  refine WP_seq ?_
  refine WP_region ?_
  refine S_v E rfl (R_move E rfl) rfl ?_
  clear E a; intro a E
  have hset := h0
  obtain ⟨sb0, sm0, sq0, se0, shb0, shm0, shn0, shq0⟩ := hset
  have shq0l : sq0.length ≤ c0.length := nodup_len shn0 fun z hz => (shq0 z).1 hz
  refine S_v E rfl (R_nilCheck E rfl se0) rfl ?_
  clear E a; intro a E
  refine S_v E rfl (R_loadM E (congrArg some se0) Tryz.isAgg145 S.imm (cellM_box shb0)) rfl ?_
  clear E a; intro a E
  refine S_v E rfl ((R_lenF S.imm shm0 E MT145 rfl).trans (by rw [encS_len])) rfl ?_
  clear E a; intro a E
  refine S_v E rfl (R_assign E rfl) rfl ?_
  clear E a; intro a E
  refine WL_nil ?_
  refine T_n ?_
  refine WP_ret ?_
  exact F_ret1 E Tryz.results205 rfl ⟨_, rfl, M1, (Hp.le.refl _), (congrArg (Value.int .i64) (by (congr 1; exact card_eq (by assumption) (by assumption)))), S⟩

set_option maxRecDepth 100000 in
set_option maxHeartbeats 4000000 in
theorem U_add {M : Hp} {b9 m9 : Nat} {l9 : List Int} {x0 : Int} :
    Sp Tryz.prog (.func (.func 206) #[] #[]) M [.pointer (some ⟨b9, 0, none⟩), .int .i64 x0] [blk b9 (.cells #[.map (some m9)] 145), OwnS m9 l9] (fun r M' C' => r = .tuple #[] ∧ C' = [blk b9 (.cells #[.map (some m9)] 145), OwnS m9 (addS l9 x0)]) := by
  refine Sp_enter Tryz.func206 rfl Tryz.ntmps206 rfl Tryz.call206 ?_
  intro a w M1 H hM1 S E
  replace S : St w M1 (blk b9 (.cells #[.map (some m9)] 145) :: OwnS m9 l9 :: _) := S
  refine WP_region ?_
  refine S_v E rfl (R_move E rfl) rfl ?_
  clear E a; intro a E
  refine S_v E rfl (R_nilCheck E rfl rfl) rfl ?_
  clear E a; intro a E
  refine S_v E rfl (R_load E rfl (Tryz.isAgg145 _) (cell_blk (S.mem (.head _)))) rfl ?_
  clear E a; intro a E
  refine S_v E rfl (R_move E rfl) rfl ?_
  clear E a; intro a E
  refine S_v E rfl (R_build (u := .agg #[]) (vs := []) E rfl (fun w => FB104__  w)) rfl ?_
  clear E a; intro a E
  replace S := S.front1
  refine S_x0 (X_updateS E S MT145 rfl rfl rfl ?_)
  clear E a S; rintro a w E S
  refine WL_nil ?_
  refine F_nrm ?_
  replace S := S.front1
  exact F_ret0 E Tryz.results206 ⟨_, rfl, M1, _, (Hp.le.refl _), ⟨rfl, rfl⟩, S⟩

set_option maxRecDepth 100000 in
set_option maxHeartbeats 4000000 in
theorem O_Clone {M : Hp} {v0 : Value} {c0 : List Int} (h0 : RdSU 145 M v0 c0) (b0 : c0.length ≤ 1000000000)  :
    Sp Tryz.prog (.func (.func 188) #[] #[]) M [v0] [] (fun r M' C' => ∃ b_ m_ l_, C' = [blk b_ (.cells #[.map (some m_)] 145), OwnS m_ l_] ∧ r = .iface 116 (.pointer (some ⟨b_, 0, none⟩)) ∧ (l_.Nodup) ∧ (∀ z, z ∈ l_ ↔ z ∈ c0)) := by
  refine Sp_enter Tryz.func188 rfl Tryz.ntmps188 rfl Tryz.call188 ?_
  intro a w M1 H hM1 S E
  replace h0 := h0.le hM1
  have hcl0 := card_le c0
  refine WP_seq ?_
  refine WP_region ?_
  refine S_v E rfl (R_assign E rfl) rfl ?_
  clear E a; intro a E
  refine WL_nil ?_
  refine T_n ?_
  refine WP_seq ?_
  refine WP_region ?_
  refine S_v E rfl (R_move E rfl) rfl ?_
  clear E a; intro a E
  refine S_x (X_pu E S rfl rfl rfl (U_Cardinality h0 (by first | assumption | omega)) (Hp.le.refl _) ?_)
  clear E a S; rintro a _ w M_1 hM_1 rfl S E
  replace h0 := h0.le hM_1
  refine S_x (X_sp (p := []) E S rfl rfl rfl (U_new (by first | assumption | omega)) (Hp.le.refl _) ?_)
  clear E a S; rintro a _ w M_2 _ hM_2 ⟨b_4, mm_5, rfl, rfl⟩ S E
  replace S : St w M_2 (blk b_4 (.cells #[.map (some mm_5)] 145) :: OwnS mm_5 ([] : List Int) :: H) := S
  replace h0 := h0.le hM_2
  refine S_v E rfl (R_assign E rfl) rfl ?_
  clear E a; intro a E
  refine WL_nil ?_
  refine T_n ?_
  refine WP_seq ?_
  refine WP_seq ?_
  refine WP_region ?_
  refine S_v E rfl (R_move E rfl) rfl ?_
  clear E a; intro a E
  have hset := h0
  obtain ⟨sb0, sm0, sq0, se0, shb0, shm0, shn0, shq0⟩ := hset
  have shq0l : sq0.length ≤ c0.length := nodup_len shn0 fun z hz => (shq0 z).1 hz
  refine S_v E rfl (R_nilCheck E rfl se0) rfl ?_
  clear E a; intro a E
  refine S_v E rfl (R_loadM E (congrArg some se0) Tryz.isAgg145 S.imm (cellM_box shb0)) rfl ?_
  clear E a; intro a E
  refine S_x (X_range E S rfl MT145 shm0 rfl ?_)
  clear E a S; rintro a w i_6 es_7 ck_8 E hf_9 S
  replace S : St w M_2 (ItO sm0 es_7 ck_8 i_6 (Sl.encS ([] : List Int)) :: _) := S
  refine WL_nil ?_
  refine T_n ?_
  refine WP_block ?_
  replace S := S.front2
  replace S := S.front1
  replace S := S.front1
  replace S := S.reM (L' := (Sl.encS (addsL [] []))) (congrArg Sl.encS (show ([] : List Int) = (addsL [] []) by (first | rfl | (simp [addsL_snoc]; done) | (simp [addsL_snoc, List.filter_append, *]; done))))
  replace S := S.front1
  replace S := S.reIt (p' := (Sl.encS [])) (congrArg Sl.encS (show ([] : List Int) = [] by (first | rfl | (simp [addsL_snoc]; done) | (simp [addsL_snoc, List.filter_append, *]; done))))
  refine WP_loop (γ := List Int) (fun (p : List Int) a w => ∃ (M_10 : Hp), Hp.le M_2 M_10 ∧ St w M_10 (ItO sm0 es_7 ck_8 i_6 (Sl.encS p) :: OwnS mm_5 (addsL [] p) :: blk b_4 (.cells #[.map (some mm_5)] 145) :: H) ∧ Env a 21 [] [(3, .pointer (some ⟨b_4, 0, none⟩)), (11, .pointer (some ⟨i_6, 0, none⟩))] ∧ (p.Nodup) ∧ (∀ z ∈ p, z ∈ sq0) ∧ (p.length ≤ sq0.length)) (fun p => sq0.length - p.length) [] ⟨M_2, Hp.le.refl _, S, E.keep ⟨rfl, rfl, trivial⟩, (by simp), (by simp), (by simp)⟩ ?_
  try clear E
  try clear S
  try clear a
  try clear w
  rintro p a w ⟨M_10, hM_10, S, E, hL0_0, hL0_1, hL0_2⟩
  replace h0 := h0.le hM_10
  replace shb0 := hM_10.2 _ _ shb0
  replace shm0 := shm0.le hM_10
  replace hf_9 := hf_9.le hM_10
  refine WP_seq ?_
  refine WP_region ?_
  refine S_x (X_nextS E S rfl hf_9 rfl (by assumption) (by assumption) ?_ ?_)
  · clear E a S; rintro a E hpm_11 S
    refine S_v E rfl (R_extract E rfl rfl) rfl ?_
    clear E a; intro a E
    refine WL_nil ?_
    refine T_n ?_
    refine WP_seq ?_
    refine WP_condF E rfl rfl ?_
    refine WP_exit ?_
    refine T_x ?_
    refine T_x ?_
    refine B_x ?_
    refine T_n ?_
    refine WP_seq ?_
    refine WP_region ?_
    refine S_v E rfl (R_move E rfl) rfl ?_
    clear E a; intro a E
    refine S_v E rfl (R_ifaceP E rfl Tryz.underlying116) rfl ?_
    clear E a; intro a E
    refine S_v E rfl (R_assign E rfl) rfl ?_
    clear E a; intro a E
    refine WL_nil ?_
    refine T_n ?_
    refine WP_ret ?_
    replace S := S.drop
    replace S := S.front1
    exact F_ret1 E Tryz.results188 rfl ⟨_, rfl, M_10, _, (hM_1.trans (hM_2.trans hM_10)), ⟨_, _, _, rfl, rfl, (by (first | assumption | exact addsL_nodup _ _ List.nodup_nil | exact addsL_nodup _ _ (addsL_nodup _ _ List.nodup_nil))), (by (intro z; have ep := (List.Perm.mem_iff (a := z) (show p.Perm sq0 by first | assumption | (exact List.Perm.symm (by assumption)))).trans (shq0 z); simp only [mem_addsL, List.not_mem_nil, false_or, List.mem_append, List.mem_filter, decide_eq_true_eq, List.nil_append]; simp only [ep]))⟩, S⟩
  · clear E a S w; rintro a w k_12 E hk_13 hk_13n hk_13l S
    refine S_v E rfl (R_extract E rfl rfl) rfl ?_
    clear E a; intro a E
    refine WL_nil ?_
    refine T_n ?_
    refine WP_seq ?_
    refine WP_condT E rfl rfl ?_
    refine WP_skip ?_
    refine T_n ?_
    refine WP_block ?_
    refine WP_seq ?_
    refine WP_region ?_
    refine S_v E rfl (R_entry (k := k_12) (v := .agg #[]) E (by have S1 := S; simp only [Sl.encS, List.map_append, List.map_cons, List.map_nil] at S1; exact S1) hf_9 rfl) rfl ?_
    clear E a; intro a E
    refine S_v E rfl (R_extract E rfl rfl) rfl ?_
    clear E a; intro a E
    refine S_v E rfl (R_assign E rfl) rfl ?_
    clear E a; intro a E
    refine WL_nil ?_
    refine T_n ?_
    refine WP_region ?_
    refine S_v E rfl (R_move E rfl) rfl ?_
    clear E a; intro a E
    refine S_v E rfl (R_move E rfl) rfl ?_
    clear E a; intro a E
    replace S := S.front1
    replace S := S.front2
    refine S_x (X_sp (p := [blk b_4 (.cells #[.map (some mm_5)] 145), OwnS mm_5 (addsL [] p)]) E S rfl rfl rfl (U_add) (Hp.le.refl _) ?_)
    clear E a S; rintro a _ w M_14 _ hM_14 ⟨rfl, rfl⟩ S E
    replace S : St w M_14 (blk b_4 (.cells #[.map (some mm_5)] 145) :: OwnS mm_5 (addS (addsL [] p) k_12) :: ItO sm0 es_7 ck_8 i_6 (Sl.encS (p ++ [k_12])) :: H) := S
    replace h0 := h0.le hM_14
    replace shb0 := hM_14.2 _ _ shb0
    replace shm0 := shm0.le hM_14
    replace hf_9 := hf_9.le hM_14
    refine WL_nil ?_
    refine B_n ?_
    refine T_n ?_
    replace S := S.front1
    replace S := S.front2
    replace S := S.front1
    replace S := S.reM (L' := (Sl.encS (addsL [] (p ++ [k_12])))) (congrArg Sl.encS (show addS (addsL [] p) k_12 = (addsL [] (p ++ [k_12])) by (first | rfl | (simp [addsL_snoc]; done) | (simp [addsL_snoc, List.filter_append, *]; done))))
    replace S := S.front1
    replace S := S.reIt (p' := (Sl.encS (p ++ [k_12]))) (congrArg Sl.encS (show p ++ [k_12] = (p ++ [k_12]) by (first | rfl | (simp [addsL_snoc]; done) | (simp [addsL_snoc, List.filter_append, *]; done))))
    exact ⟨(p ++ [k_12]), ⟨M_14, (hM_10.trans hM_14), S, E.keep ⟨rfl, rfl, trivial⟩, (by exact snocN (by assumption) (by assumption)), (by exact snocS (by assumption) (by assumption)), (by simp; omega)⟩, (by simp; omega)⟩

set_option maxRecDepth 100000 in
set_option maxHeartbeats 4000000 in
theorem OS_Clone {M : Hp} {p0 : Nat} {v0 : Value} {c0 : List Int} (h0 : RdSU 145 M v0 c0) (b0 : c0.length ≤ 1000000000)  :
    Sp Tryz.prog (.func (.func 163) #[] #[]) M [.pointer (some ⟨p0, 0, none⟩)] [blk p0 (.cells #[.int .i32 0, .int .u32 0, .int .u32 0, .int .u32 0, .int .i32 0, .int .i32 0, v0] 144)] (fun r M' C' => ∃ p_ b_ m_ l_, C' = [blk p0 (.cells #[.int .i32 0, .int .u32 0, .int .u32 0, .int .u32 0, .int .i32 0, .int .i32 0, v0] 144), blk p_ (.cells #[.int .i32 0, .int .u32 0, .int .u32 0, .int .u32 0, .int .i32 0, .int .i32 0, .pointer (some ⟨b_, 0, none⟩)] 144), blk b_ (.cells #[.map (some m_)] 145), OwnS m_ l_] ∧ r = .iface 114 (.pointer (some ⟨p_, 0, none⟩)) ∧ (l_.Nodup) ∧ (∀ z, z ∈ l_ ↔ z ∈ c0)) := by
  refine Sp_enter Tryz.func163 rfl Tryz.ntmps163 rfl Tryz.call163 ?_
  intro a w M1 H hM1 S E
  replace S : St w M1 (blk p0 (.cells #[.int .i32 0, .int .u32 0, .int .u32 0, .int .u32 0, .int .i32 0, .int .i32 0, v0] 144) :: _) := S
  replace h0 := h0.le hM1
  have hset := h0
  obtain ⟨sb0, sm0, sq0, se0, shb0, shm0, shn0, shq0⟩ := hset
  have shq0l : sq0.length ≤ c0.length := nodup_len shn0 fun z hz => (shq0 z).1 hz
  refine WP_seq ?_
  refine WP_region ?_
  refine S_v E rfl (R_assign E rfl) rfl ?_
  clear E a; intro a E
  refine WL_nil ?_
  refine T_n ?_
  refine WP_seq ?_
  refine WP_region ?_
  refine S_v E rfl (R_move E rfl) rfl ?_
  clear E a; intro a E
  refine S_v E rfl (R_nilCheck E rfl rfl) rfl ?_
  clear E a; intro a E
  refine S_v E rfl (R_fieldAddr E rfl (FA144_0 _)) rfl ?_
  clear E a; intro a E
  replace S : St w M1 (LK p0 144 0 v0 :: _) := S
  refine S_x (X_sp (p := [LK p0 144 0 v0]) E S rfl rfl rfl (rlock_sp Tryz.rwRLib (T := 144) (n := 0) (by decide) (by decide)) (Hp.le.refl _) ?_)
  clear E a S; rintro a _ w M_1 _ hM_1 ⟨rfl, rfl⟩ S E
  replace S : St w M_1 (blk p0 (.cells #[.int .i32 0, .int .u32 0, .int .u32 0, .int .u32 0, .int .i32 1, .int .i32 0, v0] 144) :: H) := S
  replace h0 := h0.le hM_1
  replace shb0 := hM_1.2 _ _ shb0
  replace shm0 := shm0.le hM_1
  refine WL_nil ?_
  refine T_n ?_
  refine WP_seq ?_
  refine WP_region ?_
  refine S_v E rfl (R_move E rfl) rfl ?_
  clear E a; intro a E
  refine S_v E rfl (R_nilCheck E rfl rfl) rfl ?_
  clear E a; intro a E
  refine S_v E rfl (R_fieldAddr E rfl (FA144_1 _)) rfl ?_
  clear E a; intro a E
  refine S_v E rfl (R_load E rfl (Tryz.isAgg116 _) (cell_blkf (S.mem (.head _)) rfl)) rfl ?_
  clear E a; intro a E
  refine S_x (X_sp (p := []) E S rfl rfl rfl (O_Clone h0 (by first | assumption | omega)) (Hp.le.refl _) ?_)
  clear E a S; rintro a _ w M_2 _ hM_2 ⟨b_3, m_4, l_5, rfl, rfl, hx_6, hx_7⟩ S E
  replace S : St w M_2 (blk b_3 (.cells #[.map (some m_4)] 145) :: OwnS m_4 l_5 :: blk p0 (.cells #[.int .i32 0, .int .u32 0, .int .u32 0, .int .u32 0, .int .i32 1, .int .i32 0, v0] 144) :: H) := S
  replace h0 := h0.le hM_2
  replace shb0 := hM_2.2 _ _ shb0
  replace shm0 := shm0.le hM_2
  refine S_v E rfl (R_assert E rfl Tryz.underlying116 (by intro z hz; cases hz)) rfl ?_
  clear E a; intro a E
  refine S_v E rfl (R_assign E rfl) rfl ?_
  clear E a; intro a E
  refine WL_nil ?_
  refine T_n ?_
  refine WP_seq ?_
  refine WP_region ?_
  refine S_v E rfl (R_move E rfl) rfl ?_
  clear E a; intro a E
  refine S_v E rfl (R_build (u := .agg #[.int .i32 0, .int .u32 0, .int .u32 0, .int .u32 0, .int .i32 0, .int .i32 0, .pointer (some ⟨b_3, 0, none⟩)]) (vs := [.pointer (some ⟨b_3, 0, none⟩)]) E rfl (fun w => BLK144 _ w)) rfl ?_
  clear E a; intro a E
  refine S_x (X_box (cs := #[.int .i32 0, .int .u32 0, .int .u32 0, .int .u32 0, .int .i32 0, .int .i32 0, .pointer (some ⟨b_3, 0, none⟩)]) E S rfl rfl rfl ?_)
  clear E a S; rintro a w b_8 E S
  refine S_v E rfl (R_assign E rfl) rfl ?_
  clear E a; intro a E
  refine WL_nil ?_
  refine T_n ?_
  refine WP_seq ?_
  refine WP_region ?_
  refine S_v E rfl (R_move E rfl) rfl ?_
  clear E a; intro a E
  refine S_v E rfl (R_nilCheck E rfl rfl) rfl ?_
  clear E a; intro a E
  refine S_v E rfl (R_fieldAddr E rfl (FA144_0 _)) rfl ?_
  clear E a; intro a E
  replace S := S.front3
  replace S : St w M_2 (LK p0 144 (0 + 1) v0 :: _) := S
  refine S_x (X_sp (p := [LK p0 144 (0 + 1) v0]) E S rfl rfl rfl (runlock_sp Tryz.rwRLib (T := 144) (n := 0) (by decide) (by decide)) (Hp.le.refl _) ?_)
  clear E a S; rintro a _ w M_9 _ hM_9 ⟨rfl, rfl⟩ S E
  replace S : St w M_9 (blk p0 (.cells #[.int .i32 0, .int .u32 0, .int .u32 0, .int .u32 0, .int .i32 0, .int .i32 0, v0] 144) :: blk b_8 (.cells #[.int .i32 0, .int .u32 0, .int .u32 0, .int .u32 0, .int .i32 0, .int .i32 0, .pointer (some ⟨b_3, 0, none⟩)] 144) :: blk b_3 (.cells #[.map (some m_4)] 145) :: OwnS m_4 l_5 :: H) := S
  replace h0 := h0.le hM_9
  replace shb0 := hM_9.2 _ _ shb0
  replace shm0 := shm0.le hM_9
  refine WL_nil ?_
  refine T_n ?_
  refine WP_seq ?_
  refine WP_region ?_
  refine S_v E rfl (R_move E rfl) rfl ?_
  clear E a; intro a E
  refine S_v E rfl (R_ifaceP E rfl Tryz.underlying114) rfl ?_
  clear E a; intro a E
  refine S_v E rfl (R_assign E rfl) rfl ?_
  clear E a; intro a E
  refine WL_nil ?_
  refine T_n ?_
  refine WP_ret ?_
  replace S := S.front3
  replace S := S.front3
  replace S := S.front3
  replace S := S.front3
  exact F_ret1 E Tryz.results163 rfl ⟨_, rfl, M_9, _, (hM_1.trans (hM_2.trans hM_9)), ⟨_, _, _, _, rfl, rfl, (by assumption), (by assumption)⟩, S⟩

set_option maxRecDepth 100000 in
set_option maxHeartbeats 4000000 in
theorem reg_Clone {M : Hp} {x0 : Bool} {v : Value} {t : List RG} {i : Nat} {x : RG} (hx : t[i]? = some x) (hb : x.2.2.length ≤ 1000000000) :
    InvSp Tryz.prog (ifv KS x0 x) "Clone" M [] [Regs KS x0 v t] (fun r _ C' => ∃ D, C' = Regs KS x0 v t :: D ∧ ∃ x' : RG, r = ifv KS x0 x' ∧ x'.2.2 = setI x.2.2 ∧ D = [SetI KS x0 x']) := by
  refine reg_look1 hx fun M' hM hr => ?_
  cases x0
  · exact lookU (F := [lkI KS false x]) (newU (InvSp.of_sp (fun w => meth_116_Clone _ w) Tryz.call188 (spConv (O_Clone hr hb) fun r M2 C ⟨b, m, l, h1, h2, h3, h4⟩ => ⟨b, m, l, h1, h2, h3, fun z => (h4 z).trans mem_setI.symm⟩))) fun r M2 C h => h
  · exact newS1 (K := KS) (InvSp.of_sp (fun w => meth_114_Clone _ w) Tryz.call163 (spConv (OS_Clone hr hb) fun r M2 C ⟨p, b, m, l, h1, h2, h3, h4⟩ => ⟨p, b, m, l, h1, h2, h3, fun z => (h4 z).trans mem_setI.symm⟩))

set_option maxRecDepth 100000 in
set_option maxHeartbeats 4000000 in
theorem O_Union {M : Hp} {m0 : Value} {q0 c0 : List Int} (hm0 : RdM M m0 (Sl.encS q0)) (hn0 : q0.Nodup) (hq0 : ∀ x, x ∈ q0 ↔ x ∈ c0) {v1 : Value} {c1 : List Int} (h1 : RdSU 145 M v1 c1) (b0 : c0.length ≤ 1000000000) (b1 : c1.length ≤ 1000000000)  :
    Sp Tryz.prog (.func (.func 202) #[] #[]) M [m0, .iface 116 v1] [] (fun r M' C' => ∃ b_ m_ l_, C' = [blk b_ (.cells #[.map (some m_)] 145), OwnS m_ l_] ∧ r = .iface 116 (.pointer (some ⟨b_, 0, none⟩)) ∧ (l_.Nodup) ∧ (∀ z, z ∈ l_ ↔ z ∈ c0 ∨ z ∈ c1)) := by
  refine Sp_enter Tryz.func202 rfl Tryz.ntmps202 rfl Tryz.call202 ?_
  intro a w M1 H hM1 S E
  replace hm0 := hm0.le hM1
  replace h1 := h1.le hM1
  have hql0 : q0.length ≤ c0.length := nodup_len hn0 fun z hz => (hq0 z).1 hz
  have hcl0 := card_le c0
  have hcl1 := card_le c1
  refine WP_seq ?_
  refine WP_region ?_
  refine S_x (X_box (cs := #[m0]) E S rfl rfl (cells_one (RdM.one' hm0)) ?_)
  clear E a S; rintro a w b_1 E S
  obtain ⟨M_2, hM_2, hb_1, S⟩ := S.freezeB
  replace hm0 := hm0.le hM_2
  replace h1 := h1.le hM_2
  refine S_v E rfl (R_assign E rfl) rfl ?_
  clear E a; intro a E
  refine WL_nil ?_
  refine T_n ?_
  refine WP_seq ?_
  refine WP_region ?_
  refine S_v E rfl (R_move E rfl) rfl ?_
  clear E a; intro a E
  refine S_v E rfl (R_assert E rfl Tryz.underlying116 (by intro z hz; cases hz)) rfl ?_
  clear E a; intro a E
  refine S_v E rfl (R_assign E rfl) rfl ?_
  clear E a; intro a E
  refine WL_nil ?_
  refine T_n ?_
  refine WP_seq ?_
  refine WP_region ?_
  refine S_x (X_pu E S rfl rfl rfl (U_Cardinality (⟨_, _, _, rfl, hb_1, hm0, hn0, hq0⟩ : RdSU 145 M_2 (.pointer (some ⟨b_1, 0, none⟩)) c0) (by first | assumption | omega)) (Hp.le.refl _) ?_)
  clear E a S; rintro a _ w M_3 hM_3 rfl S E
  replace hm0 := hm0.le hM_3
  replace h1 := h1.le hM_3
  replace hb_1 := hM_3.2 _ _ hb_1
  refine S_v E rfl (R_move E rfl) rfl ?_
  clear E a; intro a E
  refine S_x (X_pu E S rfl rfl rfl (U_Cardinality h1 (by first | assumption | omega)) (Hp.le.refl _) ?_)
  clear E a S; rintro a _ w M_4 hM_4 rfl S E
  replace hm0 := hm0.le hM_4
  replace h1 := h1.le hM_4
  replace hb_1 := hM_4.2 _ _ hb_1
  refine S_v E rfl (R_addx (m := ((card c0 + card c1 : Nat) : Int)) E rfl rfl (by omega) (by omega)) rfl ?_
  clear E a; intro a E
  refine S_v E rfl (R_assign E rfl) rfl ?_
  clear E a; intro a E
  refine WL_nil ?_
  refine T_n ?_
  refine WP_seq ?_
  refine WP_region ?_
  refine S_v E rfl (R_move E rfl) rfl ?_
  clear E a; intro a E
  refine S_x (X_makeMapR E S rfl MT145 rfl ?_)
  clear E a S; rintro a w b_5 E S
  replace S : St w M_4 (OwnS b_5 ([] : List Int) :: _) := S
  refine S_x (X_alloc (cs := #[.map none]) E S rfl Tryz.zeroValue145 rfl ?_)
  clear E a S; rintro a w b_6 E S
  refine S_x0 (X_store E S rfl rfl (Tryz.sizeOf145 _) rfl ?_)
  clear E a S; rintro a w E S
  refine WL_nil ?_
  refine T_n ?_
  refine WP_seq ?_
  refine WP_seq ?_
  refine WP_region ?_
  refine S_v E rfl (R_loadM E rfl Tryz.isAgg145 S.imm (cellM_box hb_1)) rfl ?_
  clear E a; intro a E
  refine S_x (X_range E S rfl MT145 hm0 rfl ?_)
  clear E a S; rintro a w i_7 es_8 ck_9 E hf_10 S
  replace S : St w M_4 (ItO m0 es_8 ck_9 i_7 (Sl.encS ([] : List Int)) :: _) := S
  refine WL_nil ?_
  refine T_n ?_
  refine WP_block ?_
  replace S := S.front2
  replace S := S.front1
  replace S := S.front1
  replace S := S.reM (L' := (Sl.encS (addsL [] []))) (congrArg Sl.encS (show ([] : List Int) = (addsL [] []) by (first | rfl | (simp [addsL_snoc]; done) | (simp [addsL_snoc, List.filter_append, *]; done))))
  replace S := S.front1
  replace S := S.reIt (p' := (Sl.encS [])) (congrArg Sl.encS (show ([] : List Int) = [] by (first | rfl | (simp [addsL_snoc]; done) | (simp [addsL_snoc, List.filter_append, *]; done))))
  refine WP_loop (γ := List Int) (fun (p : List Int) a w => ∃ (M_11 : Hp), Hp.le M_4 M_11 ∧ St w M_11 (ItO m0 es_8 ck_9 i_7 (Sl.encS p) :: OwnS b_5 (addsL [] p) :: blk b_6 (.cells #[.map (some b_5)] 145) :: H) ∧ Env a 37 [] [(5, v1), (7, .pointer (some ⟨b_6, 0, none⟩)), (19, .pointer (some ⟨i_7, 0, none⟩))] ∧ (p.Nodup) ∧ (∀ z ∈ p, z ∈ q0) ∧ (p.length ≤ q0.length)) (fun p => q0.length - p.length) [] ⟨M_4, Hp.le.refl _, S, E.keep ⟨rfl, rfl, rfl, trivial⟩, (by simp), (by simp), (by simp)⟩ ?_
  try clear E
  try clear S
  try clear a
  try clear w
  rintro p a w ⟨M_11, hM_11, S, E, hL0_0, hL0_1, hL0_2⟩
  replace hm0 := hm0.le hM_11
  replace h1 := h1.le hM_11
  replace hb_1 := hM_11.2 _ _ hb_1
  replace hf_10 := hf_10.le hM_11
  refine WP_seq ?_
  refine WP_region ?_
  refine S_x (X_nextS E S rfl hf_10 rfl (by assumption) (by assumption) ?_ ?_)
  · clear E a S; rintro a E hpm_12 S
    refine S_v E rfl (R_extract E rfl rfl) rfl ?_
    clear E a; intro a E
    refine WL_nil ?_
    refine T_n ?_
    refine WP_seq ?_
    refine WP_condF E rfl rfl ?_
    refine WP_exit ?_
    refine T_x ?_
    refine T_x ?_
    refine B_x ?_
    refine T_n ?_
    refine WP_seq ?_
    refine WP_seq ?_
    refine WP_region ?_
    refine S_v E rfl (R_move E rfl) rfl ?_
    clear E a; intro a E
    have hset := h1
    obtain ⟨sb1, sm1, sq1, se1, shb1, shm1, shn1, shq1⟩ := hset
    have shq1l : sq1.length ≤ c1.length := nodup_len shn1 fun z hz => (shq1 z).1 hz
    refine S_v E rfl (R_nilCheck E rfl se1) rfl ?_
    clear E a; intro a E
    refine S_v E rfl (R_loadM E (congrArg some se1) Tryz.isAgg145 S.imm (cellM_box shb1)) rfl ?_
    clear E a; intro a E
    refine S_x (X_range E S rfl MT145 shm1 rfl ?_)
    clear E a S; rintro a w i_13 es_14 ck_15 E hf_16 S
    replace S : St w M_11 (ItO sm1 es_14 ck_15 i_13 (Sl.encS ([] : List Int)) :: _) := S
    refine WL_nil ?_
    refine T_n ?_
    refine WP_block ?_
    replace S := S.front2
    replace S := S.front1
    replace S := S.front1
    replace S := S.reM (L' := (Sl.encS (addsL (addsL [] p) []))) (congrArg Sl.encS (show (addsL [] p) = (addsL (addsL [] p) []) by (first | rfl | (simp [addsL_snoc]; done) | (simp [addsL_snoc, List.filter_append, *]; done))))
    replace S := S.front1
    replace S := S.reIt (p' := (Sl.encS [])) (congrArg Sl.encS (show ([] : List Int) = [] by (first | rfl | (simp [addsL_snoc]; done) | (simp [addsL_snoc, List.filter_append, *]; done))))
    refine WP_loop (γ := List Int) (fun (r : List Int) a w => ∃ (M_17 : Hp), Hp.le M_11 M_17 ∧ St w M_17 (ItO sm1 es_14 ck_15 i_13 (Sl.encS r) :: OwnS b_5 (addsL (addsL [] p) r) :: ItO m0 es_8 ck_9 i_7 (Sl.encS p) :: blk b_6 (.cells #[.map (some b_5)] 145) :: H) ∧ Env a 37 [] [(7, .pointer (some ⟨b_6, 0, none⟩)), (29, .pointer (some ⟨i_13, 0, none⟩))] ∧ (r.Nodup) ∧ (∀ z ∈ r, z ∈ sq1) ∧ (r.length ≤ sq1.length)) (fun r => sq1.length - r.length) [] ⟨M_11, Hp.le.refl _, S, E.keep ⟨rfl, rfl, trivial⟩, (by simp), (by simp), (by simp)⟩ ?_
    try clear E
    try clear S
    try clear a
    try clear w
    rintro r a w ⟨M_17, hM_17, S, E, hL1_0, hL1_1, hL1_2⟩
    replace hm0 := hm0.le hM_17
    replace h1 := h1.le hM_17
    replace hb_1 := hM_17.2 _ _ hb_1
    replace hf_10 := hf_10.le hM_17
    replace shb1 := hM_17.2 _ _ shb1
    replace shm1 := shm1.le hM_17
    replace hf_16 := hf_16.le hM_17
    refine WP_seq ?_
    refine WP_region ?_
    refine S_x (X_nextS E S rfl hf_16 rfl (by assumption) (by assumption) ?_ ?_)
    · clear E a S; rintro a E hpm_18 S
      refine S_v E rfl (R_extract E rfl rfl) rfl ?_
      clear E a; intro a E
      refine WL_nil ?_
      refine T_n ?_
      refine WP_seq ?_
      refine WP_condF E rfl rfl ?_
      refine WP_exit ?_
      refine T_x ?_
      refine T_x ?_
      refine B_x ?_
      refine T_n ?_
      refine WP_seq ?_
      refine WP_region ?_
      refine S_v E rfl (R_ifaceP E rfl Tryz.underlying116) rfl ?_
      clear E a; intro a E
      refine S_v E rfl (R_assign E rfl) rfl ?_
      clear E a; intro a E
      refine WL_nil ?_
      refine T_n ?_
      refine WP_ret ?_
      replace S := S.drop
      replace S := S.front1
      replace S := S.drop
      replace S := S.front1
      exact F_ret1 E Tryz.results202 rfl ⟨_, rfl, M_17, _, (hM_2.trans (hM_3.trans (hM_4.trans (hM_11.trans hM_17)))), ⟨_, _, _, rfl, rfl, (by (first | assumption | exact addsL_nodup _ _ List.nodup_nil | exact addsL_nodup _ _ (addsL_nodup _ _ List.nodup_nil))), (by (intro z; have ep := (List.Perm.mem_iff (a := z) (show p.Perm q0 by first | assumption | (exact List.Perm.symm (by assumption)))).trans (hq0 z); have er := (List.Perm.mem_iff (a := z) (show r.Perm sq1 by first | assumption | (exact List.Perm.symm (by assumption)))).trans (shq1 z); simp only [mem_addsL, List.not_mem_nil, false_or, List.mem_append, List.mem_filter, decide_eq_true_eq, List.nil_append]; simp only [ep, er]))⟩, S⟩
    · clear E a S w; rintro a w k_19 E hk_20 hk_20n hk_20l S
      refine S_v E rfl (R_extract E rfl rfl) rfl ?_
      clear E a; intro a E
      refine WL_nil ?_
      refine T_n ?_
      refine WP_seq ?_
      refine WP_condT E rfl rfl ?_
      refine WP_skip ?_
      refine T_n ?_
      refine WP_block ?_
      refine WP_seq ?_
      refine WP_region ?_
      refine S_v E rfl (R_entry (k := k_19) (v := .agg #[]) E (by have S1 := S; simp only [Sl.encS, List.map_append, List.map_cons, List.map_nil] at S1; exact S1) hf_16 rfl) rfl ?_
      clear E a; intro a E
      refine S_v E rfl (R_extract E rfl rfl) rfl ?_
      clear E a; intro a E
      refine S_v E rfl (R_assign E rfl) rfl ?_
      clear E a; intro a E
      refine WL_nil ?_
      refine T_n ?_
      refine WP_region ?_
      refine S_v E rfl (R_move E rfl) rfl ?_
      clear E a; intro a E
      replace S := S.front1
      replace S := S.front3
      refine S_x (X_sp (p := [blk b_6 (.cells #[.map (some b_5)] 145), OwnS b_5 (addsL (addsL [] p) r)]) E S rfl rfl rfl (U_add) (Hp.le.refl _) ?_)
      clear E a S; rintro a _ w M_21 _ hM_21 ⟨rfl, rfl⟩ S E
      replace S : St w M_21 (blk b_6 (.cells #[.map (some b_5)] 145) :: OwnS b_5 (addS (addsL (addsL [] p) r) k_19) :: ItO sm1 es_14 ck_15 i_13 (Sl.encS (r ++ [k_19])) :: ItO m0 es_8 ck_9 i_7 (Sl.encS p) :: H) := S
      replace hm0 := hm0.le hM_21
      replace h1 := h1.le hM_21
      replace hb_1 := hM_21.2 _ _ hb_1
      replace hf_10 := hf_10.le hM_21
      replace shb1 := hM_21.2 _ _ shb1
      replace shm1 := shm1.le hM_21
      replace hf_16 := hf_16.le hM_21
      refine WL_nil ?_
      refine B_n ?_
      refine T_n ?_
      replace S := S.front3
      replace S := S.front2
      replace S := S.front3
      replace S := S.front1
      replace S := S.reM (L' := (Sl.encS (addsL (addsL [] p) (r ++ [k_19])))) (congrArg Sl.encS (show addS (addsL (addsL [] p) r) k_19 = (addsL (addsL [] p) (r ++ [k_19])) by (first | rfl | (simp [addsL_snoc]; done) | (simp [addsL_snoc, List.filter_append, *]; done))))
      replace S := S.front1
      replace S := S.reIt (p' := (Sl.encS (r ++ [k_19]))) (congrArg Sl.encS (show r ++ [k_19] = (r ++ [k_19]) by (first | rfl | (simp [addsL_snoc]; done) | (simp [addsL_snoc, List.filter_append, *]; done))))
      exact ⟨(r ++ [k_19]), ⟨M_21, (hM_17.trans hM_21), S, E.keep ⟨rfl, rfl, trivial⟩, (by exact snocN (by assumption) (by assumption)), (by exact snocS (by assumption) (by assumption)), (by simp; omega)⟩, (by simp; omega)⟩
  · clear E a S w; rintro a w k_22 E hk_23 hk_23n hk_23l S
    refine S_v E rfl (R_extract E rfl rfl) rfl ?_
    clear E a; intro a E
    refine WL_nil ?_
    refine T_n ?_
    refine WP_seq ?_
    refine WP_condT E rfl rfl ?_
    refine WP_skip ?_
    refine T_n ?_
    refine WP_block ?_
    refine WP_seq ?_
    refine WP_region ?_
    refine S_v E rfl (R_entry (k := k_22) (v := .agg #[]) E (by have S1 := S; simp only [Sl.encS, List.map_append, List.map_cons, List.map_nil] at S1; exact S1) hf_10 rfl) rfl ?_
    clear E a; intro a E
    refine S_v E rfl (R_extract E rfl rfl) rfl ?_
    clear E a; intro a E
    refine S_v E rfl (R_assign E rfl) rfl ?_
    clear E a; intro a E
    refine WL_nil ?_
    refine T_n ?_
    refine WP_region ?_
    refine S_v E rfl (R_move E rfl) rfl ?_
    clear E a; intro a E
    replace S := S.front1
    replace S := S.front2
    refine S_x (X_sp (p := [blk b_6 (.cells #[.map (some b_5)] 145), OwnS b_5 (addsL [] p)]) E S rfl rfl rfl (U_add) (Hp.le.refl _) ?_)
    clear E a S; rintro a _ w M_24 _ hM_24 ⟨rfl, rfl⟩ S E
    replace S : St w M_24 (blk b_6 (.cells #[.map (some b_5)] 145) :: OwnS b_5 (addS (addsL [] p) k_22) :: ItO m0 es_8 ck_9 i_7 (Sl.encS (p ++ [k_22])) :: H) := S
    replace hm0 := hm0.le hM_24
    replace h1 := h1.le hM_24
    replace hb_1 := hM_24.2 _ _ hb_1
    replace hf_10 := hf_10.le hM_24
    refine WL_nil ?_
    refine B_n ?_
    refine T_n ?_
    replace S := S.front1
    replace S := S.front2
    replace S := S.front1
    replace S := S.reM (L' := (Sl.encS (addsL [] (p ++ [k_22])))) (congrArg Sl.encS (show addS (addsL [] p) k_22 = (addsL [] (p ++ [k_22])) by (first | rfl | (simp [addsL_snoc]; done) | (simp [addsL_snoc, List.filter_append, *]; done))))
    replace S := S.front1
    replace S := S.reIt (p' := (Sl.encS (p ++ [k_22]))) (congrArg Sl.encS (show p ++ [k_22] = (p ++ [k_22]) by (first | rfl | (simp [addsL_snoc]; done) | (simp [addsL_snoc, List.filter_append, *]; done))))
    exact ⟨(p ++ [k_22]), ⟨M_24, (hM_11.trans hM_24), S, E.keep ⟨rfl, rfl, rfl, trivial⟩, (by exact snocN (by assumption) (by assumption)), (by exact snocS (by assumption) (by assumption)), (by simp; omega)⟩, (by simp; omega)⟩

set_option maxRecDepth 100000 in
set_option maxHeartbeats 4000000 in
theorem OS_Union {M : Hp} {p0 : Nat} {v0 : Value} {c0 : List Int} (h0 : RdSU 145 M v0 c0) {p1 : Nat} {v1 : Value} {c1 : List Int} (h1 : RdSU 145 M v1 c1) (b0 : c0.length ≤ 1000000000) (b1 : c1.length ≤ 1000000000)  :
    Sp Tryz.prog (.func (.func 183) #[] #[]) M [.pointer (some ⟨p0, 0, none⟩), .iface 114 (.pointer (some ⟨p1, 0, none⟩))] [blk p0 (.cells #[.int .i32 0, .int .u32 0, .int .u32 0, .int .u32 0, .int .i32 0, .int .i32 0, v0] 144), blk p1 (.cells #[.int .i32 0, .int .u32 0, .int .u32 0, .int .u32 0, .int .i32 0, .int .i32 0, v1] 144)] (fun r M' C' => ∃ p_ b_ m_ l_, C' = [blk p0 (.cells #[.int .i32 0, .int .u32 0, .int .u32 0, .int .u32 0, .int .i32 0, .int .i32 0, v0] 144), blk p1 (.cells #[.int .i32 0, .int .u32 0, .int .u32 0, .int .u32 0, .int .i32 0, .int .i32 0, v1] 144), blk p_ (.cells #[.int .i32 0, .int .u32 0, .int .u32 0, .int .u32 0, .int .i32 0, .int .i32 0, .pointer (some ⟨b_, 0, none⟩)] 144), blk b_ (.cells #[.map (some m_)] 145), OwnS m_ l_] ∧ r = .iface 114 (.pointer (some ⟨p_, 0, none⟩)) ∧ (l_.Nodup) ∧ (∀ z, z ∈ l_ ↔ z ∈ c0 ∨ z ∈ c1)) := by
  refine Sp_enter Tryz.func183 rfl Tryz.ntmps183 rfl Tryz.call183 ?_
  intro a w M1 H hM1 S E
  replace S : St w M1 (blk p0 (.cells #[.int .i32 0, .int .u32 0, .int .u32 0, .int .u32 0, .int .i32 0, .int .i32 0, v0] 144) :: blk p1 (.cells #[.int .i32 0, .int .u32 0, .int .u32 0, .int .u32 0, .int .i32 0, .int .i32 0, v1] 144) :: _) := S
  replace h0 := h0.le hM1
  replace h1 := h1.le hM1
  have hset := h0
  obtain ⟨sb0, sm0, sq0, se0, shb0, shm0, shn0, shq0⟩ := hset
  have shq0l : sq0.length ≤ c0.length := nodup_len shn0 fun z hz => (shq0 z).1 hz
  have hset := h1
  obtain ⟨sb1, sm1, sq1, se1, shb1, shm1, shn1, shq1⟩ := hset
  have shq1l : sq1.length ≤ c1.length := nodup_len shn1 fun z hz => (shq1 z).1 hz
  refine WP_seq ?_
  refine WP_region ?_
  refine S_v E rfl (R_assign E rfl) rfl ?_
  clear E a; intro a E
  refine WL_nil ?_
  refine T_n ?_
  refine WP_seq ?_
  refine WP_region ?_
  refine S_v E rfl (R_move E rfl) rfl ?_
  clear E a; intro a E
  refine S_v E rfl (R_assert E rfl Tryz.underlying114 (by intro z hz; cases hz)) rfl ?_
  clear E a; intro a E
  refine S_v E rfl (R_assign E rfl) rfl ?_
  clear E a; intro a E
  refine WL_nil ?_
  refine T_n ?_
  refine WP_seq ?_
  refine WP_region ?_
  refine S_v E rfl (R_move E rfl) rfl ?_
  clear E a; intro a E
  refine S_v E rfl (R_nilCheck E rfl rfl) rfl ?_
  clear E a; intro a E
  refine S_v E rfl (R_fieldAddr E rfl (FA144_0 _)) rfl ?_
  clear E a; intro a E
  replace S : St w M1 (LK p0 144 0 v0 :: _) := S
  refine S_x (X_sp (p := [LK p0 144 0 v0]) E S rfl rfl rfl (rlock_sp Tryz.rwRLib (T := 144) (n := 0) (by decide) (by decide)) (Hp.le.refl _) ?_)
  clear E a S; rintro a _ w M_1 _ hM_1 ⟨rfl, rfl⟩ S E
  replace S : St w M_1 (blk p0 (.cells #[.int .i32 0, .int .u32 0, .int .u32 0, .int .u32 0, .int .i32 1, .int .i32 0, v0] 144) :: blk p1 (.cells #[.int .i32 0, .int .u32 0, .int .u32 0, .int .u32 0, .int .i32 0, .int .i32 0, v1] 144) :: H) := S
  replace h0 := h0.le hM_1
  replace h1 := h1.le hM_1
  replace shb0 := hM_1.2 _ _ shb0
  replace shm0 := shm0.le hM_1
  replace shb1 := hM_1.2 _ _ shb1
  replace shm1 := shm1.le hM_1
  refine WL_nil ?_
  refine T_n ?_
  refine WP_seq ?_
  refine WP_region ?_
  refine S_v E rfl (R_move E rfl) rfl ?_
  clear E a; intro a E
  refine S_v E rfl (R_nilCheck E rfl rfl) rfl ?_
  clear E a; intro a E
  refine S_v E rfl (R_fieldAddr E rfl (FA144_0 _)) rfl ?_
  clear E a; intro a E
  replace S := S.front1
  replace S : St w M_1 (LK p1 144 0 v1 :: _) := S
  refine S_x (X_sp (p := [LK p1 144 0 v1]) E S rfl rfl rfl (rlock_sp Tryz.rwRLib (T := 144) (n := 0) (by decide) (by decide)) (Hp.le.refl _) ?_)
  clear E a S; rintro a _ w M_2 _ hM_2 ⟨rfl, rfl⟩ S E
  replace S : St w M_2 (blk p1 (.cells #[.int .i32 0, .int .u32 0, .int .u32 0, .int .u32 0, .int .i32 1, .int .i32 0, v1] 144) :: blk p0 (.cells #[.int .i32 0, .int .u32 0, .int .u32 0, .int .u32 0, .int .i32 1, .int .i32 0, v0] 144) :: H) := S
  replace h0 := h0.le hM_2
  replace h1 := h1.le hM_2
  replace shb0 := hM_2.2 _ _ shb0
  replace shm0 := shm0.le hM_2
  replace shb1 := hM_2.2 _ _ shb1
  replace shm1 := shm1.le hM_2
  refine WL_nil ?_
  refine T_n ?_
  refine WP_seq ?_
  replace S := S.mono_heap (w' := World.drew _) rfl
  refine WP_drawn (C := fun x w => agree M_2 w ∧ (x = 3 → w.heap[p0]? = some (.cells #[.int .i32 0, .int .u32 0, .int .u32 0, .int .u32 0, .int .i32 1, .int .i32 0, v0] 144)) ∧ (x = 9 → w.heap[p1]? = some (.cells #[.int .i32 0, .int .u32 0, .int .u32 0, .int .u32 0, .int .i32 1, .int .i32 0, v1] 144))) (bf := (fun i => bif Nat.beq i 11 then [3, 9] else [])) [0, 1, 2, 3, 4, 5, 6, 7, 8, 9, 10, 12, 13] [0, 1, 2, 3, 4, 5, 6, 7, 8, 9, 10, 11, 12, 13] Tryz.mixed (by kernel_rfl) (fun x hq => ⟨S.imm, fun _ => (S.mem (.tail _ (.head _))), fun _ => (S.mem (.head _))⟩) ?_
  refine D_v E rfl rfl rfl (fun w hC => (R_move E rfl)) ?_
  clear E a; intro a E
  refine D_v E rfl rfl rfl (fun w hC => (R_nilCheck E rfl rfl)) ?_
  clear E a; intro a E
  refine D_v E rfl rfl rfl (fun w hC => (R_fieldAddr E rfl (FA144_1 _))) ?_
  clear E a; intro a E
  refine D_v E rfl rfl rfl (fun w hC => (R_load E rfl (Tryz.isAgg116 _) (cell_blkf (hC.2.1 rfl) rfl))) ?_
  clear E a; intro a E
  refine D_v E rfl rfl rfl (fun w hC => (R_nilCheck E rfl se0)) ?_
  clear E a; intro a E
  refine D_v E rfl rfl rfl (fun w hC => (R_loadM E (congrArg some se0) Tryz.isAgg145 hC.1 (cellM_box shb0))) ?_
  clear E a; intro a E
  refine D_v E rfl rfl rfl (fun w hC => (R_move E rfl)) ?_
  clear E a; intro a E
  refine D_v E rfl rfl rfl (fun w hC => (R_nilCheck E rfl rfl)) ?_
  clear E a; intro a E
  refine D_v E rfl rfl rfl (fun w hC => (R_fieldAddr E rfl (FA144_1 _))) ?_
  clear E a; intro a E
  refine D_v E rfl rfl rfl (fun w hC => (R_load E rfl (Tryz.isAgg116 _) (cell_blkf (hC.2.2 rfl) rfl))) ?_
  clear E a; intro a E
  refine D_v E rfl rfl rfl (fun w hC => (R_ifaceP E rfl Tryz.underlying116)) ?_
  clear E a; intro a E
  refine D_x rfl rfl rfl (X_sp (p := []) E S rfl rfl rfl (O_Union shm0 shn0 shq0 h1 (by first | assumption | omega) (by first | assumption | omega)) (Hp.le.refl _) ?_)
  clear E a S; rintro a _ w M_3 _ hM_3 ⟨b_4, m_5, l_6, rfl, rfl, hx_7, hx_8⟩ S E
  replace S : St w M_3 (blk b_4 (.cells #[.map (some m_5)] 145) :: OwnS m_5 l_6 :: blk p1 (.cells #[.int .i32 0, .int .u32 0, .int .u32 0, .int .u32 0, .int .i32 1, .int .i32 0, v1] 144) :: blk p0 (.cells #[.int .i32 0, .int .u32 0, .int .u32 0, .int .u32 0, .int .i32 1, .int .i32 0, v0] 144) :: H) := S
  replace h0 := h0.le hM_3
  replace h1 := h1.le hM_3
  replace shb0 := hM_3.2 _ _ shb0
  replace shm0 := shm0.le hM_3
  replace shb1 := hM_3.2 _ _ shb1
  replace shm1 := shm1.le hM_3
  refine ⟨fun x hq hb => ⟨(agree_le hM_3 S.imm), (fun e => by subst e; exact absurd hb (by decide)), (fun e => by subst e; exact absurd hb (by decide))⟩, ?_⟩
  refine D_v E rfl rfl rfl (fun w hC => (R_assert E rfl Tryz.underlying116 (by intro z hz; cases hz))) ?_
  clear E a; intro a E
  refine D_v E rfl rfl rfl (fun w hC => (R_assign E rfl)) ?_
  clear E a; intro a E
  refine D_end (NoP_n ?_)
  refine T_n ?_
  refine WP_seq ?_
  refine WP_region ?_
  refine S_v E rfl (R_move E rfl) rfl ?_
  clear E a; intro a E
  refine S_v E rfl (R_build (u := .agg #[.int .i32 0, .int .u32 0, .int .u32 0, .int .u32 0, .int .i32 0, .int .i32 0, .pointer (some ⟨b_4, 0, none⟩)]) (vs := [.pointer (some ⟨b_4, 0, none⟩)]) E rfl (fun w => BLK144 _ w)) rfl ?_
  clear E a; intro a E
  refine S_x (X_box (cs := #[.int .i32 0, .int .u32 0, .int .u32 0, .int .u32 0, .int .i32 0, .int .i32 0, .pointer (some ⟨b_4, 0, none⟩)]) E S rfl rfl rfl ?_)
  clear E a S; rintro a w b_9 E S
  refine S_v E rfl (R_assign E rfl) rfl ?_
  clear E a; intro a E
  refine WL_nil ?_
  refine T_n ?_
  refine WP_seq ?_
  refine WP_region ?_
  refine S_v E rfl (R_move E rfl) rfl ?_
  clear E a; intro a E
  refine S_v E rfl (R_nilCheck E rfl rfl) rfl ?_
  clear E a; intro a E
  refine S_v E rfl (R_fieldAddr E rfl (FA144_0 _)) rfl ?_
  clear E a; intro a E
  replace S := S.front4
  replace S : St w M_3 (LK p0 144 (0 + 1) v0 :: _) := S
  refine S_x (X_sp (p := [LK p0 144 (0 + 1) v0]) E S rfl rfl rfl (runlock_sp Tryz.rwRLib (T := 144) (n := 0) (by decide) (by decide)) (Hp.le.refl _) ?_)
  clear E a S; rintro a _ w M_10 _ hM_10 ⟨rfl, rfl⟩ S E
  replace S : St w M_10 (blk p0 (.cells #[.int .i32 0, .int .u32 0, .int .u32 0, .int .u32 0, .int .i32 0, .int .i32 0, v0] 144) :: blk b_9 (.cells #[.int .i32 0, .int .u32 0, .int .u32 0, .int .u32 0, .int .i32 0, .int .i32 0, .pointer (some ⟨b_4, 0, none⟩)] 144) :: blk b_4 (.cells #[.map (some m_5)] 145) :: OwnS m_5 l_6 :: blk p1 (.cells #[.int .i32 0, .int .u32 0, .int .u32 0, .int .u32 0, .int .i32 1, .int .i32 0, v1] 144) :: H) := S
  replace h0 := h0.le hM_10
  replace h1 := h1.le hM_10
  replace shb0 := hM_10.2 _ _ shb0
  replace shm0 := shm0.le hM_10
  replace shb1 := hM_10.2 _ _ shb1
  replace shm1 := shm1.le hM_10
  refine WL_nil ?_
  refine T_n ?_
  refine WP_seq ?_
  refine WP_region ?_
  refine S_v E rfl (R_move E rfl) rfl ?_
  clear E a; intro a E
  refine S_v E rfl (R_nilCheck E rfl rfl) rfl ?_
  clear E a; intro a E
  refine S_v E rfl (R_fieldAddr E rfl (FA144_0 _)) rfl ?_
  clear E a; intro a E
  replace S := S.front4
  replace S : St w M_10 (LK p1 144 (0 + 1) v1 :: _) := S
  refine S_x (X_sp (p := [LK p1 144 (0 + 1) v1]) E S rfl rfl rfl (runlock_sp Tryz.rwRLib (T := 144) (n := 0) (by decide) (by decide)) (Hp.le.refl _) ?_)
  clear E a S; rintro a _ w M_11 _ hM_11 ⟨rfl, rfl⟩ S E
  replace S : St w M_11 (blk p1 (.cells #[.int .i32 0, .int .u32 0, .int .u32 0, .int .u32 0, .int .i32 0, .int .i32 0, v1] 144) :: blk p0 (.cells #[.int .i32 0, .int .u32 0, .int .u32 0, .int .u32 0, .int .i32 0, .int .i32 0, v0] 144) :: blk b_9 (.cells #[.int .i32 0, .int .u32 0, .int .u32 0, .int .u32 0, .int .i32 0, .int .i32 0, .pointer (some ⟨b_4, 0, none⟩)] 144) :: blk b_4 (.cells #[.map (some m_5)] 145) :: OwnS m_5 l_6 :: H) := S
  replace h0 := h0.le hM_11
  replace h1 := h1.le hM_11
  replace shb0 := hM_11.2 _ _ shb0
  replace shm0 := shm0.le hM_11
  replace shb1 := hM_11.2 _ _ shb1
  replace shm1 := shm1.le hM_11
  refine WL_nil ?_
  refine T_n ?_
  refine WP_seq ?_
  refine WP_region ?_
  refine S_v E rfl (R_move E rfl) rfl ?_
  clear E a; intro a E
  refine S_v E rfl (R_ifaceP E rfl Tryz.underlying114) rfl ?_
  clear E a; intro a E
  refine S_v E rfl (R_assign E rfl) rfl ?_
  clear E a; intro a E
  refine WL_nil ?_
  refine T_n ?_
  refine WP_ret ?_
  replace S := S.front4
  replace S := S.front4
  replace S := S.front4
  replace S := S.front3
  replace S := S.front4
  exact F_ret1 E Tryz.results183 rfl ⟨_, rfl, M_11, _, (hM_1.trans (hM_2.trans (hM_3.trans (hM_10.trans hM_11)))), ⟨_, _, _, _, rfl, rfl, (by assumption), (by assumption)⟩, S⟩

set_option maxRecDepth 100000 in
set_option maxHeartbeats 4000000 in
theorem AS_Union {M : Hp} {p0 : Nat} {v0 : Value} {c0 : List Int} (h0 : RdSU 145 M v0 c0) (b0 : c0.length ≤ 1000000000)  :
    Sp Tryz.prog (.func (.func 183) #[] #[]) M [.pointer (some ⟨p0, 0, none⟩), .iface 114 (.pointer (some ⟨p0, 0, none⟩))] [blk p0 (.cells #[.int .i32 0, .int .u32 0, .int .u32 0, .int .u32 0, .int .i32 0, .int .i32 0, v0] 144)] (fun r M' C' => ∃ p_ b_ m_ l_, C' = [blk p0 (.cells #[.int .i32 0, .int .u32 0, .int .u32 0, .int .u32 0, .int .i32 0, .int .i32 0, v0] 144), blk p_ (.cells #[.int .i32 0, .int .u32 0, .int .u32 0, .int .u32 0, .int .i32 0, .int .i32 0, .pointer (some ⟨b_, 0, none⟩)] 144), blk b_ (.cells #[.map (some m_)] 145), OwnS m_ l_] ∧ r = .iface 114 (.pointer (some ⟨p_, 0, none⟩)) ∧ (l_.Nodup) ∧ (∀ z, z ∈ l_ ↔ z ∈ c0 ∨ z ∈ c0)) := by
  refine Sp_enter Tryz.func183 rfl Tryz.ntmps183 rfl Tryz.call183 ?_
  intro a w M1 H hM1 S E
  replace S : St w M1 (blk p0 (.cells #[.int .i32 0, .int .u32 0, .int .u32 0, .int .u32 0, .int .i32 0, .int .i32 0, v0] 144) :: _) := S
  replace h0 := h0.le hM1
  have hset := h0
  obtain ⟨sb0, sm0, sq0, se0, shb0, shm0, shn0, shq0⟩ := hset
  have shq0l : sq0.length ≤ c0.length := nodup_len shn0 fun z hz => (shq0 z).1 hz
  refine WP_seq ?_
  refine WP_region ?_
  refine S_v E rfl (R_assign E rfl) rfl ?_
  clear E a; intro a E
  refine WL_nil ?_
  refine T_n ?_
  refine WP_seq ?_
  refine WP_region ?_
  refine S_v E rfl (R_move E rfl) rfl ?_
  clear E a; intro a E
  refine S_v E rfl (R_assert E rfl Tryz.underlying114 (by intro z hz; cases hz)) rfl ?_
  clear E a; intro a E
  refine S_v E rfl (R_assign E rfl) rfl ?_
  clear E a; intro a E
  refine WL_nil ?_
  refine T_n ?_
  refine WP_seq ?_
  refine WP_region ?_
  refine S_v E rfl (R_move E rfl) rfl ?_
  clear E a; intro a E
  refine S_v E rfl (R_nilCheck E rfl rfl) rfl ?_
  clear E a; intro a E
  refine S_v E rfl (R_fieldAddr E rfl (FA144_0 _)) rfl ?_
  clear E a; intro a E
  replace S : St w M1 (LK p0 144 0 v0 :: _) := S
  refine S_x (X_sp (p := [LK p0 144 0 v0]) E S rfl rfl rfl (rlock_sp Tryz.rwRLib (T := 144) (n := 0) (by decide) (by decide)) (Hp.le.refl _) ?_)
  clear E a S; rintro a _ w M_1 _ hM_1 ⟨rfl, rfl⟩ S E
  replace S : St w M_1 (blk p0 (.cells #[.int .i32 0, .int .u32 0, .int .u32 0, .int .u32 0, .int .i32 1, .int .i32 0, v0] 144) :: H) := S
  replace h0 := h0.le hM_1
  replace shb0 := hM_1.2 _ _ shb0
  replace shm0 := shm0.le hM_1
  refine WL_nil ?_
  refine T_n ?_
  refine WP_seq ?_
  refine WP_region ?_
  refine S_v E rfl (R_move E rfl) rfl ?_
  clear E a; intro a E
  refine S_v E rfl (R_nilCheck E rfl rfl) rfl ?_
  clear E a; intro a E
  refine S_v E rfl (R_fieldAddr E rfl (FA144_0 _)) rfl ?_
  clear E a; intro a E
  replace S : St w M_1 (LK p0 144 1 v0 :: _) := S
  refine S_x (X_sp (p := [LK p0 144 1 v0]) E S rfl rfl rfl (rlock_sp Tryz.rwRLib (T := 144) (n := 1) (by decide) (by decide)) (Hp.le.refl _) ?_)
  clear E a S; rintro a _ w M_2 _ hM_2 ⟨rfl, rfl⟩ S E
  replace S : St w M_2 (blk p0 (.cells #[.int .i32 0, .int .u32 0, .int .u32 0, .int .u32 0, .int .i32 2, .int .i32 0, v0] 144) :: H) := S
  replace h0 := h0.le hM_2
  replace shb0 := hM_2.2 _ _ shb0
  replace shm0 := shm0.le hM_2
  refine WL_nil ?_
  refine T_n ?_
  refine WP_seq ?_
  replace S := S.mono_heap (w' := World.drew _) rfl
  refine WP_drawn (C := fun x w => agree M_2 w ∧ (x = 3 → w.heap[p0]? = some (.cells #[.int .i32 0, .int .u32 0, .int .u32 0, .int .u32 0, .int .i32 2, .int .i32 0, v0] 144)) ∧ (x = 9 → w.heap[p0]? = some (.cells #[.int .i32 0, .int .u32 0, .int .u32 0, .int .u32 0, .int .i32 2, .int .i32 0, v0] 144))) (bf := (fun i => bif Nat.beq i 11 then [3, 9] else [])) [0, 1, 2, 3, 4, 5, 6, 7, 8, 9, 10, 12, 13] [0, 1, 2, 3, 4, 5, 6, 7, 8, 9, 10, 11, 12, 13] Tryz.mixed (by kernel_rfl) (fun x hq => ⟨S.imm, fun _ => (S.mem (.head _)), fun _ => (S.mem (.head _))⟩) ?_
  refine D_v E rfl rfl rfl (fun w hC => (R_move E rfl)) ?_
  clear E a; intro a E
  refine D_v E rfl rfl rfl (fun w hC => (R_nilCheck E rfl rfl)) ?_
  clear E a; intro a E
  refine D_v E rfl rfl rfl (fun w hC => (R_fieldAddr E rfl (FA144_1 _))) ?_
  clear E a; intro a E
  refine D_v E rfl rfl rfl (fun w hC => (R_load E rfl (Tryz.isAgg116 _) (cell_blkf (hC.2.1 rfl) rfl))) ?_
  clear E a; intro a E
  refine D_v E rfl rfl rfl (fun w hC => (R_nilCheck E rfl se0)) ?_
  clear E a; intro a E
  refine D_v E rfl rfl rfl (fun w hC => (R_loadM E (congrArg some se0) Tryz.isAgg145 hC.1 (cellM_box shb0))) ?_
  clear E a; intro a E
  refine D_v E rfl rfl rfl (fun w hC => (R_move E rfl)) ?_
  clear E a; intro a E
  refine D_v E rfl rfl rfl (fun w hC => (R_nilCheck E rfl rfl)) ?_
  clear E a; intro a E
  refine D_v E rfl rfl rfl (fun w hC => (R_fieldAddr E rfl (FA144_1 _))) ?_
  clear E a; intro a E
  refine D_v E rfl rfl rfl (fun w hC => (R_load E rfl (Tryz.isAgg116 _) (cell_blkf (hC.2.2 rfl) rfl))) ?_
  clear E a; intro a E
  refine D_v E rfl rfl rfl (fun w hC => (R_ifaceP E rfl Tryz.underlying116)) ?_
  clear E a; intro a E
  refine D_x rfl rfl rfl (X_sp (p := []) E S rfl rfl rfl (O_Union shm0 shn0 shq0 h0 (by first | assumption | omega) (by first | assumption | omega)) (Hp.le.refl _) ?_)
  clear E a S; rintro a _ w M_3 _ hM_3 ⟨b_4, m_5, l_6, rfl, rfl, hx_7, hx_8⟩ S E
  replace S : St w M_3 (blk b_4 (.cells #[.map (some m_5)] 145) :: OwnS m_5 l_6 :: blk p0 (.cells #[.int .i32 0, .int .u32 0, .int .u32 0, .int .u32 0, .int .i32 2, .int .i32 0, v0] 144) :: H) := S
  replace h0 := h0.le hM_3
  replace shb0 := hM_3.2 _ _ shb0
  replace shm0 := shm0.le hM_3
  refine ⟨fun x hq hb => ⟨(agree_le hM_3 S.imm), (fun e => by subst e; exact absurd hb (by decide)), (fun e => by subst e; exact absurd hb (by decide))⟩, ?_⟩
  refine D_v E rfl rfl rfl (fun w hC => (R_assert E rfl Tryz.underlying116 (by intro z hz; cases hz))) ?_
  clear E a; intro a E
  refine D_v E rfl rfl rfl (fun w hC => (R_assign E rfl)) ?_
  clear E a; intro a E
  refine D_end (NoP_n ?_)
  refine T_n ?_
  refine WP_seq ?_
  refine WP_region ?_
  refine S_v E rfl (R_move E rfl) rfl ?_
  clear E a; intro a E
  refine S_v E rfl (R_build (u := .agg #[.int .i32 0, .int .u32 0, .int .u32 0, .int .u32 0, .int .i32 0, .int .i32 0, .pointer (some ⟨b_4, 0, none⟩)]) (vs := [.pointer (some ⟨b_4, 0, none⟩)]) E rfl (fun w => BLK144 _ w)) rfl ?_
  clear E a; intro a E
  refine S_x (X_box (cs := #[.int .i32 0, .int .u32 0, .int .u32 0, .int .u32 0, .int .i32 0, .int .i32 0, .pointer (some ⟨b_4, 0, none⟩)]) E S rfl rfl rfl ?_)
  clear E a S; rintro a w b_9 E S
  refine S_v E rfl (R_assign E rfl) rfl ?_
  clear E a; intro a E
  refine WL_nil ?_
  refine T_n ?_
  refine WP_seq ?_
  refine WP_region ?_
  refine S_v E rfl (R_move E rfl) rfl ?_
  clear E a; intro a E
  refine S_v E rfl (R_nilCheck E rfl rfl) rfl ?_
  clear E a; intro a E
  refine S_v E rfl (R_fieldAddr E rfl (FA144_0 _)) rfl ?_
  clear E a; intro a E
  replace S := S.front3
  replace S : St w M_3 (LK p0 144 (1 + 1) v0 :: _) := S
  refine S_x (X_sp (p := [LK p0 144 (1 + 1) v0]) E S rfl rfl rfl (runlock_sp Tryz.rwRLib (T := 144) (n := 1) (by decide) (by decide)) (Hp.le.refl _) ?_)
  clear E a S; rintro a _ w M_10 _ hM_10 ⟨rfl, rfl⟩ S E
  replace S : St w M_10 (blk p0 (.cells #[.int .i32 0, .int .u32 0, .int .u32 0, .int .u32 0, .int .i32 1, .int .i32 0, v0] 144) :: blk b_9 (.cells #[.int .i32 0, .int .u32 0, .int .u32 0, .int .u32 0, .int .i32 0, .int .i32 0, .pointer (some ⟨b_4, 0, none⟩)] 144) :: blk b_4 (.cells #[.map (some m_5)] 145) :: OwnS m_5 l_6 :: H) := S
  replace h0 := h0.le hM_10
  replace shb0 := hM_10.2 _ _ shb0
  replace shm0 := shm0.le hM_10
  refine WL_nil ?_
  refine T_n ?_
  refine WP_seq ?_
  refine WP_region ?_
  refine S_v E rfl (R_move E rfl) rfl ?_
  clear E a; intro a E
  refine S_v E rfl (R_nilCheck E rfl rfl) rfl ?_
  clear E a; intro a E
  refine S_v E rfl (R_fieldAddr E rfl (FA144_0 _)) rfl ?_
  clear E a; intro a E
  replace S : St w M_10 (LK p0 144 (0 + 1) v0 :: _) := S
  refine S_x (X_sp (p := [LK p0 144 (0 + 1) v0]) E S rfl rfl rfl (runlock_sp Tryz.rwRLib (T := 144) (n := 0) (by decide) (by decide)) (Hp.le.refl _) ?_)
  clear E a S; rintro a _ w M_11 _ hM_11 ⟨rfl, rfl⟩ S E
  replace S : St w M_11 (blk p0 (.cells #[.int .i32 0, .int .u32 0, .int .u32 0, .int .u32 0, .int .i32 0, .int .i32 0, v0] 144) :: blk b_9 (.cells #[.int .i32 0, .int .u32 0, .int .u32 0, .int .u32 0, .int .i32 0, .int .i32 0, .pointer (some ⟨b_4, 0, none⟩)] 144) :: blk b_4 (.cells #[.map (some m_5)] 145) :: OwnS m_5 l_6 :: H) := S
  replace h0 := h0.le hM_11
  replace shb0 := hM_11.2 _ _ shb0
  replace shm0 := shm0.le hM_11
  refine WL_nil ?_
  refine T_n ?_
  refine WP_seq ?_
  refine WP_region ?_
  refine S_v E rfl (R_move E rfl) rfl ?_
  clear E a; intro a E
  refine S_v E rfl (R_ifaceP E rfl Tryz.underlying114) rfl ?_
  clear E a; intro a E
  refine S_v E rfl (R_assign E rfl) rfl ?_
  clear E a; intro a E
  refine WL_nil ?_
  refine T_n ?_
  refine WP_ret ?_
  replace S := S.front3
  replace S := S.front3
  replace S := S.front3
  replace S := S.front3
  exact F_ret1 E Tryz.results183 rfl ⟨_, rfl, M_11, _, (hM_1.trans (hM_2.trans (hM_3.trans (hM_10.trans hM_11)))), ⟨_, _, _, _, rfl, rfl, (by assumption), (by assumption)⟩, S⟩

set_option maxRecDepth 100000 in
set_option maxHeartbeats 4000000 in
theorem reg_Union {M : Hp} {x0 : Bool} {v : Value} {t : List RG} {i : Nat} {x : RG} {j : Nat} {y : RG} (hx : t[i]? = some x) (hy : t[j]? = some y) (hb : x.2.2.length ≤ 1000000000) (hb2 : y.2.2.length ≤ 1000000000) :
    InvSp Tryz.prog (ifv KS x0 x) "Union" M [ifv KS x0 y] [Regs KS x0 v t] (fun r _ C' => ∃ D, C' = Regs KS x0 v t :: D ∧ ∃ x' : RG, r = ifv KS x0 x' ∧ x'.2.2 = setI (x.2.2 ++ y.2.2) ∧ D = [SetI KS x0 x']) := by
  refine reg_look2 hx hy (fun M' hM hr hs => ?_) (fun e9 M' hM hr => ?_)
  · cases x0
    · obtain ⟨b0, m0, q0, e, hb0, hm, hn, hq⟩ := hr
      exact lookU (F := [lkI KS false x, lkI KS false y]) (newU (InvSp.of_spS (fun w M1 H hM S => meth_116_Union e (cellM_world S.imm (cellM_box (hM.2 _ _ hb0)))) Tryz.call202 (spConv (O_Union hm hn hq hs hb hb2) fun r M2 C ⟨b, m, l, h1, h2, h3, h4⟩ => ⟨b, m, l, h1, h2, h3, fun z => (h4 z).trans (by rw [mem_setI, List.mem_append])⟩))) fun r M2 C h => h
    · exact newS2 (K := KS) (InvSp.of_sp (fun w => meth_114_Union _ w) Tryz.call183 (spConv (OS_Union hr hs hb hb2) fun r M2 C ⟨p, b, m, l, h1, h2, h3, h4⟩ => ⟨p, b, m, l, h1, h2, h3, fun z => (h4 z).trans (by rw [mem_setI, List.mem_append])⟩))
  · subst e9
    cases x0
    · obtain ⟨b0, m0, q0, e, hb0, hm, hn, hq⟩ := id hr
      exact lookU (F := [lkI KS false y]) (newU (InvSp.of_spS (fun w M1 H hM S => meth_116_Union e (cellM_world S.imm (cellM_box (hM.2 _ _ hb0)))) Tryz.call202 (spConv (O_Union hm hn hq hr hb hb) fun r M2 C ⟨b, m, l, h1, h2, h3, h4⟩ => ⟨b, m, l, h1, h2, h3, fun z => (h4 z).trans (by rw [mem_setI, List.mem_append])⟩))) fun r M2 C h => h
    · exact newS1 (K := KS) (InvSp.of_sp (fun w => meth_114_Union _ w) Tryz.call183 (spConv (AS_Union hr hb) fun r M2 C ⟨p, b, m, l, h1, h2, h3, h4⟩ => ⟨p, b, m, l, h1, h2, h3, fun z => (h4 z).trans (by rw [mem_setI, List.mem_append])⟩))

set_option maxRecDepth 100000 in
set_option maxHeartbeats 4000000 in
theorem U_contains {M : Hp} {x1 : Int} {v0 : Value} {c0 : List Int} (h0 : RdSU 145 M v0 c0) (b0 : c0.length ≤ 1000000000)  :
    Pu Tryz.prog (.func (.func 207) #[] #[]) M [v0, .int .i64 x1] (fun r M' => r = .bool (decide (x1 ∈ c0))) := by
  refine Pu_enter Tryz.func207 rfl Tryz.ntmps207 rfl Tryz.call207 ?_
  intro a w M1 H hM1 S E
  replace h0 := h0.le hM1
  refine WP_seq ?_
  refine WP_region ?_
  refine S_v E rfl (R_assign E rfl) rfl ?_
  clear E a; intro a E
  refine WL_nil ?_
  refine T_n ?_
  refine WP_seq ?_
  refine WP_region ?_
  refine S_v E rfl (R_move E rfl) rfl ?_
  clear E a; intro a E
  have hset := h0
  obtain ⟨sb0, sm0, sq0, se0, shb0, shm0, shn0, shq0⟩ := hset
  have shq0l : sq0.length ≤ c0.length := nodup_len shn0 fun z hz => (shq0 z).1 hz
  refine S_v E rfl (R_nilCheck E rfl se0) rfl ?_
  clear E a; intro a E
  refine S_v E rfl (R_loadM E (congrArg some se0) Tryz.isAgg145 S.imm (cellM_box shb0)) rfl ?_
  clear E a; intro a E
  refine S_v E rfl (R_move E rfl) rfl ?_
  clear E a; intro a E
  refine S_v E rfl (R_lookupFS S.imm shm0 E MT145 rfl rfl) rfl ?_
  clear E a; intro a E
  refine S_v E rfl (R_move E rfl) rfl ?_
  clear E a; intro a E
  refine S_v E rfl (R_extract E rfl rfl) rfl ?_
  clear E a; intro a E
  refine S_v E rfl (R_extract E rfl rfl) rfl ?_
  clear E a; intro a E
  refine S_v E rfl (R_assign E rfl) rfl ?_
  clear E a; intro a E
  refine WL_nil ?_
  refine T_n ?_
  refine WP_seq ?_
  refine WP_region ?_
  refine S_v E rfl (R_move E rfl) rfl ?_
  clear E a; intro a E
  refine S_v E rfl (R_assign E rfl) rfl ?_
  clear E a; intro a E
  refine WL_nil ?_
  refine T_n ?_
  refine WP_ret ?_
  exact F_ret1 E Tryz.results207 rfl ⟨_, rfl, M1, (Hp.le.refl _), (congrArg Value.bool (by (simp [*]; done))), S⟩

set_option maxRecDepth 100000 in
set_option maxHeartbeats 4000000 in
theorem O_Intersect {M : Hp} {v0 : Value} {c0 : List Int} (h0 : RdSU 145 M v0 c0) {v1 : Value} {c1 : List Int} (h1 : RdSU 145 M v1 c1) (b0 : c0.length ≤ 1000000000) (b1 : c1.length ≤ 1000000000)  :
    Sp Tryz.prog (.func (.func 195) #[] #[]) M [v0, .iface 116 v1] [] (fun r M' C' => ∃ b_ m_ l_, C' = [blk b_ (.cells #[.map (some m_)] 145), OwnS m_ l_] ∧ r = .iface 116 (.pointer (some ⟨b_, 0, none⟩)) ∧ (l_.Nodup) ∧ (∀ z, z ∈ l_ ↔ z ∈ c0 ∧ z ∈ c1)) := by
  refine Sp_enter Tryz.func195 rfl Tryz.ntmps195 rfl Tryz.call195 ?_
  intro a w M1 H hM1 S E
  replace h0 := h0.le hM1
  replace h1 := h1.le hM1
  have hcl0 := card_le c0
  have hcl1 := card_le c1
  refine WP_seq ?_
  refine WP_region ?_
  refine S_v E rfl (R_assign E rfl) rfl ?_
  clear E a; intro a E
  refine WL_nil ?_
  refine T_n ?_
  refine WP_seq ?_
  refine WP_region ?_
  refine S_v E rfl (R_move E rfl) rfl ?_
  clear E a; intro a E
  refine S_v E rfl (R_assert E rfl Tryz.underlying116 (by intro z hz; cases hz)) rfl ?_
  clear E a; intro a E
  refine S_v E rfl (R_assign E rfl) rfl ?_
  clear E a; intro a E
  refine WL_nil ?_
  refine T_n ?_
  refine WP_seq ?_
  refine WP_region ?_
  refine S_x (X_alloc (cs := #[.map none]) E S rfl Tryz.zeroValue145 rfl ?_)
  clear E a S; rintro a w b_1 E S
  refine WL_nil ?_
  refine T_n ?_
  refine WP_seq ?_
  refine WP_seq ?_
  refine WP_region ?_
  refine S_v E rfl (R_move E rfl) rfl ?_
  clear E a; intro a E
  refine S_x (X_pu E S rfl rfl rfl (U_Cardinality h0 (by first | assumption | omega)) (Hp.le.refl _) ?_)
  clear E a S; rintro a _ w M_2 hM_2 rfl S E
  replace h0 := h0.le hM_2
  replace h1 := h1.le hM_2
  refine S_v E rfl (R_move E rfl) rfl ?_
  clear E a; intro a E
  refine S_x (X_puI E S rfl rfl rfl (meth_116_Cardinality _ _) Tryz.call205 (U_Cardinality h1 (by first | assumption | omega)) (Hp.le.refl _) ?_)
  clear E a S; rintro a _ w M_3 hM_3 rfl S E
  replace h0 := h0.le hM_3
  replace h1 := h1.le hM_3
  refine S_v E rfl (R_lss E rfl rfl) rfl ?_
  clear E a; intro a E
  refine WL_nil ?_
  refine T_n ?_
  refine WP_cond E rfl (fun hc_4 => ?_) (fun hc_4 => ?_)
  · replace hc_4 := of_decide_eq_true hc_4
    refine WP_seq ?_
    refine WP_region ?_
    refine S_v E rfl (R_move E rfl) rfl ?_
    clear E a; intro a E
    refine S_x (X_pu E S rfl rfl rfl (U_Cardinality h0 (by first | assumption | omega)) (Hp.le.refl _) ?_)
    clear E a S; rintro a _ w M_5 hM_5 rfl S E
    replace h0 := h0.le hM_5
    replace h1 := h1.le hM_5
    refine S_x (X_makeMapR E S rfl MT145 rfl ?_)
    clear E a S; rintro a w b_6 E S
    replace S : St w M_5 (OwnS b_6 ([] : List Int) :: _) := S
    replace S := S.front1
    refine S_x0 (X_store E S rfl rfl (Tryz.sizeOf145 _) rfl ?_)
    clear E a S; rintro a w E S
    refine WL_nil ?_
    refine T_n ?_
    refine WP_seq ?_
    refine WP_region ?_
    refine S_v E rfl (R_move E rfl) rfl ?_
    clear E a; intro a E
    have hset := h0
    obtain ⟨sb0, sm0, sq0, se0, shb0, shm0, shn0, shq0⟩ := hset
    have shq0l : sq0.length ≤ c0.length := nodup_len shn0 fun z hz => (shq0 z).1 hz
    refine S_v E rfl (R_nilCheck E rfl se0) rfl ?_
    clear E a; intro a E
    refine S_v E rfl (R_loadM E (congrArg some se0) Tryz.isAgg145 S.imm (cellM_box shb0)) rfl ?_
    clear E a; intro a E
    refine S_x (X_range E S rfl MT145 shm0 rfl ?_)
    clear E a S; rintro a w i_7 es_8 ck_9 E hf_10 S
    replace S : St w M_5 (ItO sm0 es_8 ck_9 i_7 (Sl.encS ([] : List Int)) :: _) := S
    refine WL_nil ?_
    refine T_n ?_
    refine WP_block ?_
    replace S := S.front2
    replace S := S.front1
    replace S := S.front1
    replace S := S.reM (L' := (Sl.encS (addsL [] (([]).filter (fun z => decide (z ∈ c1)))))) (congrArg Sl.encS (show ([] : List Int) = (addsL [] (([]).filter (fun z => decide (z ∈ c1)))) by (first | rfl | (simp [addsL_snoc]; done) | (simp [addsL_snoc, List.filter_append, *]; done))))
    replace S := S.front1
    replace S := S.reIt (p' := (Sl.encS [])) (congrArg Sl.encS (show ([] : List Int) = [] by (first | rfl | (simp [addsL_snoc]; done) | (simp [addsL_snoc, List.filter_append, *]; done))))
    refine WP_loop (γ := List Int) (fun (p : List Int) a w => ∃ (M_11 : Hp), Hp.le M_5 M_11 ∧ St w M_11 (ItO sm0 es_8 ck_9 i_7 (Sl.encS p) :: OwnS b_6 (addsL [] ((p).filter (fun z => decide (z ∈ c1)))) :: blk b_1 (.cells #[.map (some b_6)] 145) :: H) ∧ Env a 49 [] [(5, v1), (6, .pointer (some ⟨b_1, 0, none⟩)), (22, .pointer (some ⟨i_7, 0, none⟩))] ∧ (p.Nodup) ∧ (∀ z ∈ p, z ∈ sq0) ∧ (p.length ≤ sq0.length)) (fun p => sq0.length - p.length) [] ⟨M_5, Hp.le.refl _, S, E.keep ⟨rfl, rfl, rfl, trivial⟩, (by simp), (by simp), (by simp)⟩ ?_
    try clear E
    try clear S
    try clear a
    try clear w
    rintro p a w ⟨M_11, hM_11, S, E, hL0_0, hL0_1, hL0_2⟩
    replace h0 := h0.le hM_11
    replace h1 := h1.le hM_11
    replace shb0 := hM_11.2 _ _ shb0
    replace shm0 := shm0.le hM_11
    replace hf_10 := hf_10.le hM_11
    refine WP_seq ?_
    refine WP_region ?_
    refine S_x (X_nextS E S rfl hf_10 rfl (by assumption) (by assumption) ?_ ?_)
    · clear E a S; rintro a E hpm_12 S
      refine S_v E rfl (R_extract E rfl rfl) rfl ?_
      clear E a; intro a E
      refine WL_nil ?_
      refine T_n ?_
      refine WP_seq ?_
      refine WP_condF E rfl rfl ?_
      refine WP_exit ?_
      refine T_x ?_
      refine T_x ?_
      refine B_x ?_
      refine T_n ?_
      refine WP_seq ?_
      refine WP_region ?_
      refine S_v E rfl (R_ifaceP E rfl Tryz.underlying116) rfl ?_
      clear E a; intro a E
      refine S_v E rfl (R_assign E rfl) rfl ?_
      clear E a; intro a E
      refine WL_nil ?_
      refine T_n ?_
      refine WP_ret ?_
      replace S := S.drop
      replace S := S.front1
      exact F_ret1 E Tryz.results195 rfl ⟨_, rfl, M_11, _, (hM_2.trans (hM_3.trans (hM_5.trans hM_11))), ⟨_, _, _, rfl, rfl, (by (first | assumption | exact addsL_nodup _ _ List.nodup_nil | exact addsL_nodup _ _ (addsL_nodup _ _ List.nodup_nil))), (by (first | (intro z; have ep := (List.Perm.mem_iff (a := z) (show p.Perm sq0 by first | assumption | (exact List.Perm.symm (by assumption)))).trans (shq0 z); simp only [mem_addsL, List.not_mem_nil, false_or, List.mem_append, List.mem_filter, decide_eq_true_eq, List.nil_append]; simp only [ep]) | (intro z; have ep := (List.Perm.mem_iff (a := z) (show p.Perm sq1 by first | assumption | (exact List.Perm.symm (by assumption)))).trans (shq1 z); simp only [mem_addsL, List.not_mem_nil, false_or, List.mem_filter, decide_eq_true_eq]; rw [ep]; exact And.comm)))⟩, S⟩
    · clear E a S w; rintro a w k_13 E hk_14 hk_14n hk_14l S
      refine S_v E rfl (R_extract E rfl rfl) rfl ?_
      clear E a; intro a E
      refine WL_nil ?_
      refine T_n ?_
      refine WP_seq ?_
      refine WP_condT E rfl rfl ?_
      refine WP_skip ?_
      refine T_n ?_
      refine WP_block ?_
      refine WP_seq ?_
      refine WP_region ?_
      refine S_v E rfl (R_entry (k := k_13) (v := .agg #[]) E (by have S1 := S; simp only [Sl.encS, List.map_append, List.map_cons, List.map_nil] at S1; exact S1) hf_10 rfl) rfl ?_
      clear E a; intro a E
      refine S_v E rfl (R_extract E rfl rfl) rfl ?_
      clear E a; intro a E
      refine S_v E rfl (R_assign E rfl) rfl ?_
      clear E a; intro a E
      refine WL_nil ?_
      refine T_n ?_
      refine WP_seq ?_
      refine WP_region ?_
      refine S_v E rfl (R_move E rfl) rfl ?_
      clear E a; intro a E
      refine S_v E rfl (R_move E rfl) rfl ?_
      clear E a; intro a E
      refine S_x (X_pu E S rfl rfl rfl (U_contains h1 (by first | assumption | omega)) (Hp.le.refl _) ?_)
      clear E a S; rintro a _ w M_15 hM_15 rfl S E
      replace h0 := h0.le hM_15
      replace h1 := h1.le hM_15
      replace shb0 := hM_15.2 _ _ shb0
      replace shm0 := shm0.le hM_15
      replace hf_10 := hf_10.le hM_15
      refine WL_nil ?_
      refine T_n ?_
      refine WP_cond E rfl (fun hc_16 => ?_) (fun hc_16 => ?_)
      · replace hc_16 := of_decide_eq_true hc_16
        refine WP_region ?_
        refine S_v E rfl (R_move E rfl) rfl ?_
        clear E a; intro a E
        replace S := S.front1
        replace S := S.front2
        refine S_x (X_sp (p := [blk b_1 (.cells #[.map (some b_6)] 145), OwnS b_6 (addsL [] ((p).filter (fun z => decide (z ∈ c1))))]) E S rfl rfl rfl (U_add) (Hp.le.refl _) ?_)
        clear E a S; rintro a _ w M_17 _ hM_17 ⟨rfl, rfl⟩ S E
        replace S : St w M_17 (blk b_1 (.cells #[.map (some b_6)] 145) :: OwnS b_6 (addS (addsL [] ((p).filter (fun z => decide (z ∈ c1)))) k_13) :: ItO sm0 es_8 ck_9 i_7 (Sl.encS (p ++ [k_13])) :: H) := S
        replace h0 := h0.le hM_17
        replace h1 := h1.le hM_17
        replace shb0 := hM_17.2 _ _ shb0
        replace shm0 := shm0.le hM_17
        replace hf_10 := hf_10.le hM_17
        refine WL_nil ?_
        refine B_n ?_
        refine T_n ?_
        replace S := S.front1
        replace S := S.front2
        replace S := S.front1
        replace S := S.reM (L' := (Sl.encS (addsL [] (((p ++ [k_13])).filter (fun z => decide (z ∈ c1)))))) (congrArg Sl.encS (show addS (addsL [] ((p).filter (fun z => decide (z ∈ c1)))) k_13 = (addsL [] (((p ++ [k_13])).filter (fun z => decide (z ∈ c1)))) by (first | rfl | (simp [addsL_snoc]; done) | (simp [addsL_snoc, List.filter_append, *]; done))))
        replace S := S.front1
        replace S := S.reIt (p' := (Sl.encS (p ++ [k_13]))) (congrArg Sl.encS (show p ++ [k_13] = (p ++ [k_13]) by (first | rfl | (simp [addsL_snoc]; done) | (simp [addsL_snoc, List.filter_append, *]; done))))
        exact ⟨(p ++ [k_13]), ⟨M_17, (hM_11.trans (hM_15.trans hM_17)), S, E.keep ⟨rfl, rfl, rfl, trivial⟩, (by exact snocN (by assumption) (by assumption)), (by exact snocS (by assumption) (by assumption)), (by simp; omega)⟩, (by simp; omega)⟩
      · replace hc_16 := of_decide_eq_false hc_16
        refine WP_skip ?_
        refine B_n ?_
        refine T_n ?_
        replace S := S.front1
        replace S := S.reM (L' := (Sl.encS (addsL [] (((p ++ [k_13])).filter (fun z => decide (z ∈ c1)))))) (congrArg Sl.encS (show (addsL [] ((p).filter (fun z => decide (z ∈ c1)))) = (addsL [] (((p ++ [k_13])).filter (fun z => decide (z ∈ c1)))) by (first | rfl | (simp [addsL_snoc]; done) | (simp [addsL_snoc, List.filter_append, *]; done))))
        replace S := S.front1
        replace S := S.reIt (p' := (Sl.encS (p ++ [k_13]))) (congrArg Sl.encS (show p ++ [k_13] = (p ++ [k_13]) by (first | rfl | (simp [addsL_snoc]; done) | (simp [addsL_snoc, List.filter_append, *]; done))))
        exact ⟨(p ++ [k_13]), ⟨M_15, (hM_11.trans hM_15), S, E.keep ⟨rfl, rfl, rfl, trivial⟩, (by exact snocN (by assumption) (by assumption)), (by exact snocS (by assumption) (by assumption)), (by simp; omega)⟩, (by simp; omega)⟩
  · replace hc_4 := of_decide_eq_false hc_4
    refine WP_seq ?_
    refine WP_region ?_
    refine S_v E rfl (R_move E rfl) rfl ?_
    clear E a; intro a E
    refine S_x (X_pu E S rfl rfl rfl (U_Cardinality h1 (by first | assumption | omega)) (Hp.le.refl _) ?_)
    clear E a S; rintro a _ w M_18 hM_18 rfl S E
    replace h0 := h0.le hM_18
    replace h1 := h1.le hM_18
    refine S_x (X_makeMapR E S rfl MT145 rfl ?_)
    clear E a S; rintro a w b_19 E S
    replace S : St w M_18 (OwnS b_19 ([] : List Int) :: _) := S
    replace S := S.front1
    refine S_x0 (X_store E S rfl rfl (Tryz.sizeOf145 _) rfl ?_)
    clear E a S; rintro a w E S
    refine WL_nil ?_
    refine T_n ?_
    refine WP_seq ?_
    refine WP_region ?_
    refine S_v E rfl (R_move E rfl) rfl ?_
    clear E a; intro a E
    have hset := h1
    obtain ⟨sb1, sm1, sq1, se1, shb1, shm1, shn1, shq1⟩ := hset
    have shq1l : sq1.length ≤ c1.length := nodup_len shn1 fun z hz => (shq1 z).1 hz
    refine S_v E rfl (R_nilCheck E rfl se1) rfl ?_
    clear E a; intro a E
    refine S_v E rfl (R_loadM E (congrArg some se1) Tryz.isAgg145 S.imm (cellM_box shb1)) rfl ?_
    clear E a; intro a E
    refine S_x (X_range E S rfl MT145 shm1 rfl ?_)
    clear E a S; rintro a w i_20 es_21 ck_22 E hf_23 S
    replace S : St w M_18 (ItO sm1 es_21 ck_22 i_20 (Sl.encS ([] : List Int)) :: _) := S
    refine WL_nil ?_
    refine T_n ?_
    refine WP_block ?_
    replace S := S.front2
    replace S := S.front1
    replace S := S.front1
    replace S := S.reM (L' := (Sl.encS (addsL [] (([]).filter (fun z => decide (z ∈ c0)))))) (congrArg Sl.encS (show ([] : List Int) = (addsL [] (([]).filter (fun z => decide (z ∈ c0)))) by (first | rfl | (simp [addsL_snoc]; done) | (simp [addsL_snoc, List.filter_append, *]; done))))
    replace S := S.front1
    replace S := S.reIt (p' := (Sl.encS [])) (congrArg Sl.encS (show ([] : List Int) = [] by (first | rfl | (simp [addsL_snoc]; done) | (simp [addsL_snoc, List.filter_append, *]; done))))
    refine WP_loop (γ := List Int) (fun (p : List Int) a w => ∃ (M_24 : Hp), Hp.le M_18 M_24 ∧ St w M_24 (ItO sm1 es_21 ck_22 i_20 (Sl.encS p) :: OwnS b_19 (addsL [] ((p).filter (fun z => decide (z ∈ c0)))) :: blk b_1 (.cells #[.map (some b_19)] 145) :: H) ∧ Env a 49 [] [(0, v0), (6, .pointer (some ⟨b_1, 0, none⟩)), (38, .pointer (some ⟨i_20, 0, none⟩))] ∧ (p.Nodup) ∧ (∀ z ∈ p, z ∈ sq1) ∧ (p.length ≤ sq1.length)) (fun p => sq1.length - p.length) [] ⟨M_18, Hp.le.refl _, S, E.keep ⟨rfl, rfl, rfl, trivial⟩, (by simp), (by simp), (by simp)⟩ ?_
    try clear E
    try clear S
    try clear a
    try clear w
    rintro p a w ⟨M_24, hM_24, S, E, hL1_0, hL1_1, hL1_2⟩
    replace h0 := h0.le hM_24
    replace h1 := h1.le hM_24
    replace shb1 := hM_24.2 _ _ shb1
    replace shm1 := shm1.le hM_24
    replace hf_23 := hf_23.le hM_24
    refine WP_seq ?_
    refine WP_region ?_
    refine S_x (X_nextS E S rfl hf_23 rfl (by assumption) (by assumption) ?_ ?_)
    · clear E a S; rintro a E hpm_25 S
      refine S_v E rfl (R_extract E rfl rfl) rfl ?_
      clear E a; intro a E
      refine WL_nil ?_
      refine T_n ?_
      refine WP_seq ?_
      refine WP_condF E rfl rfl ?_
      refine WP_exit ?_
      refine T_x ?_
      refine T_x ?_
      refine B_x ?_
      refine T_n ?_
      refine WP_seq ?_
      refine WP_region ?_
      refine S_v E rfl (R_ifaceP E rfl Tryz.underlying116) rfl ?_
      clear E a; intro a E
      refine S_v E rfl (R_assign E rfl) rfl ?_
      clear E a; intro a E
      refine WL_nil ?_
      refine T_n ?_
      refine WP_ret ?_
      replace S := S.drop
      replace S := S.front1
      exact F_ret1 E Tryz.results195 rfl ⟨_, rfl, M_24, _, (hM_2.trans (hM_3.trans (hM_18.trans hM_24))), ⟨_, _, _, rfl, rfl, (by (first | assumption | exact addsL_nodup _ _ List.nodup_nil | exact addsL_nodup _ _ (addsL_nodup _ _ List.nodup_nil))), (by (first | (intro z; have ep := (List.Perm.mem_iff (a := z) (show p.Perm sq0 by first | assumption | (exact List.Perm.symm (by assumption)))).trans (shq0 z); simp only [mem_addsL, List.not_mem_nil, false_or, List.mem_append, List.mem_filter, decide_eq_true_eq, List.nil_append]; simp only [ep]) | (intro z; have ep := (List.Perm.mem_iff (a := z) (show p.Perm sq1 by first | assumption | (exact List.Perm.symm (by assumption)))).trans (shq1 z); simp only [mem_addsL, List.not_mem_nil, false_or, List.mem_filter, decide_eq_true_eq]; rw [ep]; exact And.comm)))⟩, S⟩
    · clear E a S w; rintro a w k_26 E hk_27 hk_27n hk_27l S
      refine S_v E rfl (R_extract E rfl rfl) rfl ?_
      clear E a; intro a E
      refine WL_nil ?_
      refine T_n ?_
      refine WP_seq ?_
      refine WP_condT E rfl rfl ?_
      refine WP_skip ?_
      refine T_n ?_
      refine WP_block ?_
      refine WP_seq ?_
      refine WP_region ?_
      refine S_v E rfl (R_entry (k := k_26) (v := .agg #[]) E (by have S1 := S; simp only [Sl.encS, List.map_append, List.map_cons, List.map_nil] at S1; exact S1) hf_23 rfl) rfl ?_
      clear E a; intro a E
      refine S_v E rfl (R_extract E rfl rfl) rfl ?_
      clear E a; intro a E
      refine S_v E rfl (R_assign E rfl) rfl ?_
      clear E a; intro a E
      refine WL_nil ?_
      refine T_n ?_
      refine WP_seq ?_
      refine WP_region ?_
      refine S_v E rfl (R_move E rfl) rfl ?_
      clear E a; intro a E
      refine S_v E rfl (R_move E rfl) rfl ?_
      clear E a; intro a E
      refine S_x (X_pu E S rfl rfl rfl (U_contains h0 (by first | assumption | omega)) (Hp.le.refl _) ?_)
      clear E a S; rintro a _ w M_28 hM_28 rfl S E
      replace h0 := h0.le hM_28
      replace h1 := h1.le hM_28
      replace shb1 := hM_28.2 _ _ shb1
      replace shm1 := shm1.le hM_28
      replace hf_23 := hf_23.le hM_28
      refine WL_nil ?_
      refine T_n ?_
      refine WP_cond E rfl (fun hc_29 => ?_) (fun hc_29 => ?_)
      · replace hc_29 := of_decide_eq_true hc_29
        refine WP_region ?_
        refine S_v E rfl (R_move E rfl) rfl ?_
        clear E a; intro a E
        replace S := S.front1
        replace S := S.front2
        refine S_x (X_sp (p := [blk b_1 (.cells #[.map (some b_19)] 145), OwnS b_19 (addsL [] ((p).filter (fun z => decide (z ∈ c0))))]) E S rfl rfl rfl (U_add) (Hp.le.refl _) ?_)
        clear E a S; rintro a _ w M_30 _ hM_30 ⟨rfl, rfl⟩ S E
        replace S : St w M_30 (blk b_1 (.cells #[.map (some b_19)] 145) :: OwnS b_19 (addS (addsL [] ((p).filter (fun z => decide (z ∈ c0)))) k_26) :: ItO sm1 es_21 ck_22 i_20 (Sl.encS (p ++ [k_26])) :: H) := S
        replace h0 := h0.le hM_30
        replace h1 := h1.le hM_30
        replace shb1 := hM_30.2 _ _ shb1
        replace shm1 := shm1.le hM_30
        replace hf_23 := hf_23.le hM_30
        refine WL_nil ?_
        refine B_n ?_
        refine T_n ?_
        replace S := S.front1
        replace S := S.front2
        replace S := S.front1
        replace S := S.reM (L' := (Sl.encS (addsL [] (((p ++ [k_26])).filter (fun z => decide (z ∈ c0)))))) (congrArg Sl.encS (show addS (addsL [] ((p).filter (fun z => decide (z ∈ c0)))) k_26 = (addsL [] (((p ++ [k_26])).filter (fun z => decide (z ∈ c0)))) by (first | rfl | (simp [addsL_snoc]; done) | (simp [addsL_snoc, List.filter_append, *]; done))))
        replace S := S.front1
        replace S := S.reIt (p' := (Sl.encS (p ++ [k_26]))) (congrArg Sl.encS (show p ++ [k_26] = (p ++ [k_26]) by (first | rfl | (simp [addsL_snoc]; done) | (simp [addsL_snoc, List.filter_append, *]; done))))
        exact ⟨(p ++ [k_26]), ⟨M_30, (hM_24.trans (hM_28.trans hM_30)), S, E.keep ⟨rfl, rfl, rfl, trivial⟩, (by exact snocN (by assumption) (by assumption)), (by exact snocS (by assumption) (by assumption)), (by simp; omega)⟩, (by simp; omega)⟩
      · replace hc_29 := of_decide_eq_false hc_29
        refine WP_skip ?_
        refine B_n ?_
        refine T_n ?_
        replace S := S.front1
        replace S := S.reM (L' := (Sl.encS (addsL [] (((p ++ [k_26])).filter (fun z => decide (z ∈ c0)))))) (congrArg Sl.encS (show (addsL [] ((p).filter (fun z => decide (z ∈ c0)))) = (addsL [] (((p ++ [k_26])).filter (fun z => decide (z ∈ c0)))) by (first | rfl | (simp [addsL_snoc]; done) | (simp [addsL_snoc, List.filter_append, *]; done))))
        replace S := S.front1
        replace S := S.reIt (p' := (Sl.encS (p ++ [k_26]))) (congrArg Sl.encS (show p ++ [k_26] = (p ++ [k_26]) by (first | rfl | (simp [addsL_snoc]; done) | (simp [addsL_snoc, List.filter_append, *]; done))))
        exact ⟨(p ++ [k_26]), ⟨M_28, (hM_24.trans hM_28), S, E.keep ⟨rfl, rfl, rfl, trivial⟩, (by exact snocN (by assumption) (by assumption)), (by exact snocS (by assumption) (by assumption)), (by simp; omega)⟩, (by simp; omega)⟩

set_option maxRecDepth 100000 in
set_option maxHeartbeats 4000000 in
theorem OS_Intersect {M : Hp} {p0 : Nat} {v0 : Value} {c0 : List Int} (h0 : RdSU 145 M v0 c0) {p1 : Nat} {v1 : Value} {c1 : List Int} (h1 : RdSU 145 M v1 c1) (b0 : c0.length ≤ 1000000000) (b1 : c1.length ≤ 1000000000)  :
    Sp Tryz.prog (.func (.func 171) #[] #[]) M [.pointer (some ⟨p0, 0, none⟩), .iface 114 (.pointer (some ⟨p1, 0, none⟩))] [blk p0 (.cells #[.int .i32 0, .int .u32 0, .int .u32 0, .int .u32 0, .int .i32 0, .int .i32 0, v0] 144), blk p1 (.cells #[.int .i32 0, .int .u32 0, .int .u32 0, .int .u32 0, .int .i32 0, .int .i32 0, v1] 144)] (fun r M' C' => ∃ p_ b_ m_ l_, C' = [blk p0 (.cells #[.int .i32 0, .int .u32 0, .int .u32 0, .int .u32 0, .int .i32 0, .int .i32 0, v0] 144), blk p1 (.cells #[.int .i32 0, .int .u32 0, .int .u32 0, .int .u32 0, .int .i32 0, .int .i32 0, v1] 144), blk p_ (.cells #[.int .i32 0, .int .u32 0, .int .u32 0, .int .u32 0, .int .i32 0, .int .i32 0, .pointer (some ⟨b_, 0, none⟩)] 144), blk b_ (.cells #[.map (some m_)] 145), OwnS m_ l_] ∧ r = .iface 114 (.pointer (some ⟨p_, 0, none⟩)) ∧ (l_.Nodup) ∧ (∀ z, z ∈ l_ ↔ z ∈ c0 ∧ z ∈ c1)) := by
  refine Sp_enter Tryz.func171 rfl Tryz.ntmps171 rfl Tryz.call171 ?_
  intro a w M1 H hM1 S E
  replace S : St w M1 (blk p0 (.cells #[.int .i32 0, .int .u32 0, .int .u32 0, .int .u32 0, .int .i32 0, .int .i32 0, v0] 144) :: blk p1 (.cells #[.int .i32 0, .int .u32 0, .int .u32 0, .int .u32 0, .int .i32 0, .int .i32 0, v1] 144) :: _) := S
  replace h0 := h0.le hM1
  replace h1 := h1.le hM1
  have hset := h0
  obtain ⟨sb0, sm0, sq0, se0, shb0, shm0, shn0, shq0⟩ := hset
  have shq0l : sq0.length ≤ c0.length := nodup_len shn0 fun z hz => (shq0 z).1 hz
  have hset := h1
  obtain ⟨sb1, sm1, sq1, se1, shb1, shm1, shn1, shq1⟩ := hset
  have shq1l : sq1.length ≤ c1.length := nodup_len shn1 fun z hz => (shq1 z).1 hz
  refine WP_seq ?_
  refine WP_region ?_
  refine S_v E rfl (R_assign E rfl) rfl ?_
  clear E a; intro a E
  refine WL_nil ?_
  refine T_n ?_
  refine WP_seq ?_
  refine WP_region ?_
  refine S_v E rfl (R_move E rfl) rfl ?_
  clear E a; intro a E
  refine S_v E rfl (R_assert E rfl Tryz.underlying114 (by intro z hz; cases hz)) rfl ?_
  clear E a; intro a E
  refine S_v E rfl (R_assign E rfl) rfl ?_
  clear E a; intro a E
  refine WL_nil ?_
  refine T_n ?_
  refine WP_seq ?_
  refine WP_region ?_
  refine S_v E rfl (R_move E rfl) rfl ?_
  clear E a; intro a E
  refine S_v E rfl (R_nilCheck E rfl rfl) rfl ?_
  clear E a; intro a E
  refine S_v E rfl (R_fieldAddr E rfl (FA144_0 _)) rfl ?_
  clear E a; intro a E
  replace S : St w M1 (LK p0 144 0 v0 :: _) := S
  refine S_x (X_sp (p := [LK p0 144 0 v0]) E S rfl rfl rfl (rlock_sp Tryz.rwRLib (T := 144) (n := 0) (by decide) (by decide)) (Hp.le.refl _) ?_)
  clear E a S; rintro a _ w M_1 _ hM_1 ⟨rfl, rfl⟩ S E
  replace S : St w M_1 (blk p0 (.cells #[.int .i32 0, .int .u32 0, .int .u32 0, .int .u32 0, .int .i32 1, .int .i32 0, v0] 144) :: blk p1 (.cells #[.int .i32 0, .int .u32 0, .int .u32 0, .int .u32 0, .int .i32 0, .int .i32 0, v1] 144) :: H) := S
  replace h0 := h0.le hM_1
  replace h1 := h1.le hM_1
  replace shb0 := hM_1.2 _ _ shb0
  replace shm0 := shm0.le hM_1
  replace shb1 := hM_1.2 _ _ shb1
  replace shm1 := shm1.le hM_1
  refine WL_nil ?_
  refine T_n ?_
  refine WP_seq ?_
  refine WP_region ?_
  refine S_v E rfl (R_move E rfl) rfl ?_
  clear E a; intro a E
  refine S_v E rfl (R_nilCheck E rfl rfl) rfl ?_
  clear E a; intro a E
  refine S_v E rfl (R_fieldAddr E rfl (FA144_0 _)) rfl ?_
  clear E a; intro a E
  replace S := S.front1
  replace S : St w M_1 (LK p1 144 0 v1 :: _) := S
  refine S_x (X_sp (p := [LK p1 144 0 v1]) E S rfl rfl rfl (rlock_sp Tryz.rwRLib (T := 144) (n := 0) (by decide) (by decide)) (Hp.le.refl _) ?_)
  clear E a S; rintro a _ w M_2 _ hM_2 ⟨rfl, rfl⟩ S E
  replace S : St w M_2 (blk p1 (.cells #[.int .i32 0, .int .u32 0, .int .u32 0, .int .u32 0, .int .i32 1, .int .i32 0, v1] 144) :: blk p0 (.cells #[.int .i32 0, .int .u32 0, .int .u32 0, .int .u32 0, .int .i32 1, .int .i32 0, v0] 144) :: H) := S
  replace h0 := h0.le hM_2
  replace h1 := h1.le hM_2
  replace shb0 := hM_2.2 _ _ shb0
  replace shm0 := shm0.le hM_2
  replace shb1 := hM_2.2 _ _ shb1
  replace shm1 := shm1.le hM_2
  refine WL_nil ?_
  refine T_n ?_
  refine WP_seq ?_
  replace S := S.mono_heap (w' := World.drew _) rfl
  refine WP_drawn (C := fun x w => agree M_2 w ∧ (x = 3 → w.heap[p0]? = some (.cells #[.int .i32 0, .int .u32 0, .int .u32 0, .int .u32 0, .int .i32 1, .int .i32 0, v0] 144)) ∧ (x = 7 → w.heap[p1]? = some (.cells #[.int .i32 0, .int .u32 0, .int .u32 0, .int .u32 0, .int .i32 1, .int .i32 0, v1] 144))) (bf := (fun i => bif Nat.beq i 9 then [3, 7] else [])) [0, 1, 2, 3, 4, 5, 6, 7, 8, 10, 11] [0, 1, 2, 3, 4, 5, 6, 7, 8, 9, 10, 11] Tryz.mixed (by kernel_rfl) (fun x hq => ⟨S.imm, fun _ => (S.mem (.tail _ (.head _))), fun _ => (S.mem (.head _))⟩) ?_
  refine D_v E rfl rfl rfl (fun w hC => (R_move E rfl)) ?_
  clear E a; intro a E
  refine D_v E rfl rfl rfl (fun w hC => (R_nilCheck E rfl rfl)) ?_
  clear E a; intro a E
  refine D_v E rfl rfl rfl (fun w hC => (R_fieldAddr E rfl (FA144_1 _))) ?_
  clear E a; intro a E
  refine D_v E rfl rfl rfl (fun w hC => (R_load E rfl (Tryz.isAgg116 _) (cell_blkf (hC.2.1 rfl) rfl))) ?_
  clear E a; intro a E
  refine D_v E rfl rfl rfl (fun w hC => (R_move E rfl)) ?_
  clear E a; intro a E
  refine D_v E rfl rfl rfl (fun w hC => (R_nilCheck E rfl rfl)) ?_
  clear E a; intro a E
  refine D_v E rfl rfl rfl (fun w hC => (R_fieldAddr E rfl (FA144_1 _))) ?_
  clear E a; intro a E
  refine D_v E rfl rfl rfl (fun w hC => (R_load E rfl (Tryz.isAgg116 _) (cell_blkf (hC.2.2 rfl) rfl))) ?_
  clear E a; intro a E
  refine D_v E rfl rfl rfl (fun w hC => (R_ifaceP E rfl Tryz.underlying116)) ?_
  clear E a; intro a E
  refine D_x rfl rfl rfl (X_sp (p := []) E S rfl rfl rfl (O_Intersect h0 h1 (by first | assumption | omega) (by first | assumption | omega)) (Hp.le.refl _) ?_)
  clear E a S; rintro a _ w M_3 _ hM_3 ⟨b_4, m_5, l_6, rfl, rfl, hx_7, hx_8⟩ S E
  replace S : St w M_3 (blk b_4 (.cells #[.map (some m_5)] 145) :: OwnS m_5 l_6 :: blk p1 (.cells #[.int .i32 0, .int .u32 0, .int .u32 0, .int .u32 0, .int .i32 1, .int .i32 0, v1] 144) :: blk p0 (.cells #[.int .i32 0, .int .u32 0, .int .u32 0, .int .u32 0, .int .i32 1, .int .i32 0, v0] 144) :: H) := S
  replace h0 := h0.le hM_3
  replace h1 := h1.le hM_3
  replace shb0 := hM_3.2 _ _ shb0
  replace shm0 := shm0.le hM_3
  replace shb1 := hM_3.2 _ _ shb1
  replace shm1 := shm1.le hM_3
  refine ⟨fun x hq hb => ⟨(agree_le hM_3 S.imm), (fun e => by subst e; exact absurd hb (by decide)), (fun e => by subst e; exact absurd hb (by decide))⟩, ?_⟩
  refine D_v E rfl rfl rfl (fun w hC => (R_assert E rfl Tryz.underlying116 (by intro z hz; cases hz))) ?_
  clear E a; intro a E
  refine D_v E rfl rfl rfl (fun w hC => (R_assign E rfl)) ?_
  clear E a; intro a E
  refine D_end (NoP_n ?_)
  refine T_n ?_
  refine WP_seq ?_
  refine WP_region ?_
  refine S_v E rfl (R_move E rfl) rfl ?_
  clear E a; intro a E
  refine S_v E rfl (R_build (u := .agg #[.int .i32 0, .int .u32 0, .int .u32 0, .int .u32 0, .int .i32 0, .int .i32 0, .pointer (some ⟨b_4, 0, none⟩)]) (vs := [.pointer (some ⟨b_4, 0, none⟩)]) E rfl (fun w => BLK144 _ w)) rfl ?_
  clear E a; intro a E
  refine S_x (X_box (cs := #[.int .i32 0, .int .u32 0, .int .u32 0, .int .u32 0, .int .i32 0, .int .i32 0, .pointer (some ⟨b_4, 0, none⟩)]) E S rfl rfl rfl ?_)
  clear E a S; rintro a w b_9 E S
  refine S_v E rfl (R_assign E rfl) rfl ?_
  clear E a; intro a E
  refine WL_nil ?_
  refine T_n ?_
  refine WP_seq ?_
  refine WP_region ?_
  refine S_v E rfl (R_move E rfl) rfl ?_
  clear E a; intro a E
  refine S_v E rfl (R_nilCheck E rfl rfl) rfl ?_
  clear E a; intro a E
  refine S_v E rfl (R_fieldAddr E rfl (FA144_0 _)) rfl ?_
  clear E a; intro a E
  replace S := S.front4
  replace S : St w M_3 (LK p0 144 (0 + 1) v0 :: _) := S
  refine S_x (X_sp (p := [LK p0 144 (0 + 1) v0]) E S rfl rfl rfl (runlock_sp Tryz.rwRLib (T := 144) (n := 0) (by decide) (by decide)) (Hp.le.refl _) ?_)
  clear E a S; rintro a _ w M_10 _ hM_10 ⟨rfl, rfl⟩ S E
  replace S : St w M_10 (blk p0 (.cells #[.int .i32 0, .int .u32 0, .int .u32 0, .int .u32 0, .int .i32 0, .int .i32 0, v0] 144) :: blk b_9 (.cells #[.int .i32 0, .int .u32 0, .int .u32 0, .int .u32 0, .int .i32 0, .int .i32 0, .pointer (some ⟨b_4, 0, none⟩)] 144) :: blk b_4 (.cells #[.map (some m_5)] 145) :: OwnS m_5 l_6 :: blk p1 (.cells #[.int .i32 0, .int .u32 0, .int .u32 0, .int .u32 0, .int .i32 1, .int .i32 0, v1] 144) :: H) := S
  replace h0 := h0.le hM_10
  replace h1 := h1.le hM_10
  replace shb0 := hM_10.2 _ _ shb0
  replace shm0 := shm0.le hM_10
  replace shb1 := hM_10.2 _ _ shb1
  replace shm1 := shm1.le hM_10
  refine WL_nil ?_
  refine T_n ?_
  refine WP_seq ?_
  refine WP_region ?_
  refine S_v E rfl (R_move E rfl) rfl ?_
  clear E a; intro a E
  refine S_v E rfl (R_nilCheck E rfl rfl) rfl ?_
  clear E a; intro a E
  refine S_v E rfl (R_fieldAddr E rfl (FA144_0 _)) rfl ?_
  clear E a; intro a E
  replace S := S.front4
  replace S : St w M_10 (LK p1 144 (0 + 1) v1 :: _) := S
  refine S_x (X_sp (p := [LK p1 144 (0 + 1) v1]) E S rfl rfl rfl (runlock_sp Tryz.rwRLib (T := 144) (n := 0) (by decide) (by decide)) (Hp.le.refl _) ?_)
  clear E a S; rintro a _ w M_11 _ hM_11 ⟨rfl, rfl⟩ S E
  replace S : St w M_11 (blk p1 (.cells #[.int .i32 0, .int .u32 0, .int .u32 0, .int .u32 0, .int .i32 0, .int .i32 0, v1] 144) :: blk p0 (.cells #[.int .i32 0, .int .u32 0, .int .u32 0, .int .u32 0, .int .i32 0, .int .i32 0, v0] 144) :: blk b_9 (.cells #[.int .i32 0, .int .u32 0, .int .u32 0, .int .u32 0, .int .i32 0, .int .i32 0, .pointer (some ⟨b_4, 0, none⟩)] 144) :: blk b_4 (.cells #[.map (some m_5)] 145) :: OwnS m_5 l_6 :: H) := S
  replace h0 := h0.le hM_11
  replace h1 := h1.le hM_11
  replace shb0 := hM_11.2 _ _ shb0
  replace shm0 := shm0.le hM_11
  replace shb1 := hM_11.2 _ _ shb1
  replace shm1 := shm1.le hM_11
  refine WL_nil ?_
  refine T_n ?_
  refine WP_seq ?_
  refine WP_region ?_
  refine S_v E rfl (R_move E rfl) rfl ?_
  clear E a; intro a E
  refine S_v E rfl (R_ifaceP E rfl Tryz.underlying114) rfl ?_
  clear E a; intro a E
  refine S_v E rfl (R_assign E rfl) rfl ?_
  clear E a; intro a E
  refine WL_nil ?_
  refine T_n ?_
  refine WP_ret ?_
  replace S := S.front4
  replace S := S.front4
  replace S := S.front4
  replace S := S.front3
  replace S := S.front4
  exact F_ret1 E Tryz.results171 rfl ⟨_, rfl, M_11, _, (hM_1.trans (hM_2.trans (hM_3.trans (hM_10.trans hM_11)))), ⟨_, _, _, _, rfl, rfl, (by assumption), (by assumption)⟩, S⟩

set_option maxRecDepth 100000 in
set_option maxHeartbeats 4000000 in
theorem AS_Intersect {M : Hp} {p0 : Nat} {v0 : Value} {c0 : List Int} (h0 : RdSU 145 M v0 c0) (b0 : c0.length ≤ 1000000000)  :
    Sp Tryz.prog (.func (.func 171) #[] #[]) M [.pointer (some ⟨p0, 0, none⟩), .iface 114 (.pointer (some ⟨p0, 0, none⟩))] [blk p0 (.cells #[.int .i32 0, .int .u32 0, .int .u32 0, .int .u32 0, .int .i32 0, .int .i32 0, v0] 144)] (fun r M' C' => ∃ p_ b_ m_ l_, C' = [blk p0 (.cells #[.int .i32 0, .int .u32 0, .int .u32 0, .int .u32 0, .int .i32 0, .int .i32 0, v0] 144), blk p_ (.cells #[.int .i32 0, .int .u32 0, .int .u32 0, .int .u32 0, .int .i32 0, .int .i32 0, .pointer (some ⟨b_, 0, none⟩)] 144), blk b_ (.cells #[.map (some m_)] 145), OwnS m_ l_] ∧ r = .iface 114 (.pointer (some ⟨p_, 0, none⟩)) ∧ (l_.Nodup) ∧ (∀ z, z ∈ l_ ↔ z ∈ c0 ∧ z ∈ c0)) := by
  refine Sp_enter Tryz.func171 rfl Tryz.ntmps171 rfl Tryz.call171 ?_
  intro a w M1 H hM1 S E
  replace S : St w M1 (blk p0 (.cells #[.int .i32 0, .int .u32 0, .int .u32 0, .int .u32 0, .int .i32 0, .int .i32 0, v0] 144) :: _) := S
  replace h0 := h0.le hM1
  have hset := h0
  obtain ⟨sb0, sm0, sq0, se0, shb0, shm0, shn0, shq0⟩ := hset
  have shq0l : sq0.length ≤ c0.length := nodup_len shn0 fun z hz => (shq0 z).1 hz
  refine WP_seq ?_
  refine WP_region ?_
  refine S_v E rfl (R_assign E rfl) rfl ?_
  clear E a; intro a E
  refine WL_nil ?_
  refine T_n ?_
  refine WP_seq ?_
  refine WP_region ?_
  refine S_v E rfl (R_move E rfl) rfl ?_
  clear E a; intro a E
  refine S_v E rfl (R_assert E rfl Tryz.underlying114 (by intro z hz; cases hz)) rfl ?_
  clear E a; intro a E
  refine S_v E rfl (R_assign E rfl) rfl ?_
  clear E a; intro a E
  refine WL_nil ?_
  refine T_n ?_
  refine WP_seq ?_
  refine WP_region ?_
  refine S_v E rfl (R_move E rfl) rfl ?_
  clear E a; intro a E
  refine S_v E rfl (R_nilCheck E rfl rfl) rfl ?_
  clear E a; intro a E
  refine S_v E rfl (R_fieldAddr E rfl (FA144_0 _)) rfl ?_
  clear E a; intro a E
  replace S : St w M1 (LK p0 144 0 v0 :: _) := S
  refine S_x (X_sp (p := [LK p0 144 0 v0]) E S rfl rfl rfl (rlock_sp Tryz.rwRLib (T := 144) (n := 0) (by decide) (by decide)) (Hp.le.refl _) ?_)
  clear E a S; rintro a _ w M_1 _ hM_1 ⟨rfl, rfl⟩ S E
  replace S : St w M_1 (blk p0 (.cells #[.int .i32 0, .int .u32 0, .int .u32 0, .int .u32 0, .int .i32 1, .int .i32 0, v0] 144) :: H) := S
  replace h0 := h0.le hM_1
  replace shb0 := hM_1.2 _ _ shb0
  replace shm0 := shm0.le hM_1
  refine WL_nil ?_
  refine T_n ?_
  refine WP_seq ?_
  refine WP_region ?_
  refine S_v E rfl (R_move E rfl) rfl ?_
  clear E a; intro a E
  refine S_v E rfl (R_nilCheck E rfl rfl) rfl ?_
  clear E a; intro a E
  refine S_v E rfl (R_fieldAddr E rfl (FA144_0 _)) rfl ?_
  clear E a; intro a E
  replace S : St w M_1 (LK p0 144 1 v0 :: _) := S
  refine S_x (X_sp (p := [LK p0 144 1 v0]) E S rfl rfl rfl (rlock_sp Tryz.rwRLib (T := 144) (n := 1) (by decide) (by decide)) (Hp.le.refl _) ?_)
  clear E a S; rintro a _ w M_2 _ hM_2 ⟨rfl, rfl⟩ S E
  replace S : St w M_2 (blk p0 (.cells #[.int .i32 0, .int .u32 0, .int .u32 0, .int .u32 0, .int .i32 2, .int .i32 0, v0] 144) :: H) := S
  replace h0 := h0.le hM_2
  replace shb0 := hM_2.2 _ _ shb0
  replace shm0 := shm0.le hM_2
  refine WL_nil ?_
  refine T_n ?_
  refine WP_seq ?_
  replace S := S.mono_heap (w' := World.drew _) rfl
  refine WP_drawn (C := fun x w => agree M_2 w ∧ (x = 3 → w.heap[p0]? = some (.cells #[.int .i32 0, .int .u32 0, .int .u32 0, .int .u32 0, .int .i32 2, .int .i32 0, v0] 144)) ∧ (x = 7 → w.heap[p0]? = some (.cells #[.int .i32 0, .int .u32 0, .int .u32 0, .int .u32 0, .int .i32 2, .int .i32 0, v0] 144))) (bf := (fun i => bif Nat.beq i 9 then [3, 7] else [])) [0, 1, 2, 3, 4, 5, 6, 7, 8, 10, 11] [0, 1, 2, 3, 4, 5, 6, 7, 8, 9, 10, 11] Tryz.mixed (by kernel_rfl) (fun x hq => ⟨S.imm, fun _ => (S.mem (.head _)), fun _ => (S.mem (.head _))⟩) ?_
  refine D_v E rfl rfl rfl (fun w hC => (R_move E rfl)) ?_
  clear E a; intro a E
  refine D_v E rfl rfl rfl (fun w hC => (R_nilCheck E rfl rfl)) ?_
  clear E a; intro a E
  refine D_v E rfl rfl rfl (fun w hC => (R_fieldAddr E rfl (FA144_1 _))) ?_
  clear E a; intro a E
  refine D_v E rfl rfl rfl (fun w hC => (R_load E rfl (Tryz.isAgg116 _) (cell_blkf (hC.2.1 rfl) rfl))) ?_
  clear E a; intro a E
  refine D_v E rfl rfl rfl (fun w hC => (R_move E rfl)) ?_
  clear E a; intro a E
  refine D_v E rfl rfl rfl (fun w hC => (R_nilCheck E rfl rfl)) ?_
  clear E a; intro a E
  refine D_v E rfl rfl rfl (fun w hC => (R_fieldAddr E rfl (FA144_1 _))) ?_
  clear E a; intro a E
  refine D_v E rfl rfl rfl (fun w hC => (R_load E rfl (Tryz.isAgg116 _) (cell_blkf (hC.2.2 rfl) rfl))) ?_
  clear E a; intro a E
  refine D_v E rfl rfl rfl (fun w hC => (R_ifaceP E rfl Tryz.underlying116)) ?_
  clear E a; intro a E
  refine D_x rfl rfl rfl (X_sp (p := []) E S rfl rfl rfl (O_Intersect h0 h0 (by first | assumption | omega) (by first | assumption | omega)) (Hp.le.refl _) ?_)
  clear E a S; rintro a _ w M_3 _ hM_3 ⟨b_4, m_5, l_6, rfl, rfl, hx_7, hx_8⟩ S E
  replace S : St w M_3 (blk b_4 (.cells #[.map (some m_5)] 145) :: OwnS m_5 l_6 :: blk p0 (.cells #[.int .i32 0, .int .u32 0, .int .u32 0, .int .u32 0, .int .i32 2, .int .i32 0, v0] 144) :: H) := S
  replace h0 := h0.le hM_3
  replace shb0 := hM_3.2 _ _ shb0
  replace shm0 := shm0.le hM_3
  refine ⟨fun x hq hb => ⟨(agree_le hM_3 S.imm), (fun e => by subst e; exact absurd hb (by decide)), (fun e => by subst e; exact absurd hb (by decide))⟩, ?_⟩
  refine D_v E rfl rfl rfl (fun w hC => (R_assert E rfl Tryz.underlying116 (by intro z hz; cases hz))) ?_
  clear E a; intro a E
  refine D_v E rfl rfl rfl (fun w hC => (R_assign E rfl)) ?_
  clear E a; intro a E
  refine D_end (NoP_n ?_)
  refine T_n ?_
  refine WP_seq ?_
  refine WP_region ?_
  refine S_v E rfl (R_move E rfl) rfl ?_
  clear E a; intro a E
  refine S_v E rfl (R_build (u := .agg #[.int .i32 0, .int .u32 0, .int .u32 0, .int .u32 0, .int .i32 0, .int .i32 0, .pointer (some ⟨b_4, 0, none⟩)]) (vs := [.pointer (some ⟨b_4, 0, none⟩)]) E rfl (fun w => BLK144 _ w)) rfl ?_
  clear E a; intro a E
  refine S_x (X_box (cs := #[.int .i32 0, .int .u32 0, .int .u32 0, .int .u32 0, .int .i32 0, .int .i32 0, .pointer (some ⟨b_4, 0, none⟩)]) E S rfl rfl rfl ?_)
  clear E a S; rintro a w b_9 E S
  refine S_v E rfl (R_assign E rfl) rfl ?_
  clear E a; intro a E
  refine WL_nil ?_
  refine T_n ?_
  refine WP_seq ?_
  refine WP_region ?_
  refine S_v E rfl (R_move E rfl) rfl ?_
  clear E a; intro a E
  refine S_v E rfl (R_nilCheck E rfl rfl) rfl ?_
  clear E a; intro a E
  refine S_v E rfl (R_fieldAddr E rfl (FA144_0 _)) rfl ?_
  clear E a; intro a E
  replace S := S.front3
  replace S : St w M_3 (LK p0 144 (1 + 1) v0 :: _) := S
  refine S_x (X_sp (p := [LK p0 144 (1 + 1) v0]) E S rfl rfl rfl (runlock_sp Tryz.rwRLib (T := 144) (n := 1) (by decide) (by decide)) (Hp.le.refl _) ?_)
  clear E a S; rintro a _ w M_10 _ hM_10 ⟨rfl, rfl⟩ S E
  replace S : St w M_10 (blk p0 (.cells #[.int .i32 0, .int .u32 0, .int .u32 0, .int .u32 0, .int .i32 1, .int .i32 0, v0] 144) :: blk b_9 (.cells #[.int .i32 0, .int .u32 0, .int .u32 0, .int .u32 0, .int .i32 0, .int .i32 0, .pointer (some ⟨b_4, 0, none⟩)] 144) :: blk b_4 (.cells #[.map (some m_5)] 145) :: OwnS m_5 l_6 :: H) := S
  replace h0 := h0.le hM_10
  replace shb0 := hM_10.2 _ _ shb0
  replace shm0 := shm0.le hM_10
  refine WL_nil ?_
  refine T_n ?_
  refine WP_seq ?_
  refine WP_region ?_
  refine S_v E rfl (R_move E rfl) rfl ?_
  clear E a; intro a E
  refine S_v E rfl (R_nilCheck E rfl rfl) rfl ?_
  clear E a; intro a E
  refine S_v E rfl (R_fieldAddr E rfl (FA144_0 _)) rfl ?_
  clear E a; intro a E
  replace S : St w M_10 (LK p0 144 (0 + 1) v0 :: _) := S
  refine S_x (X_sp (p := [LK p0 144 (0 + 1) v0]) E S rfl rfl rfl (runlock_sp Tryz.rwRLib (T := 144) (n := 0) (by decide) (by decide)) (Hp.le.refl _) ?_)
  clear E a S; rintro a _ w M_11 _ hM_11 ⟨rfl, rfl⟩ S E
  replace S : St w M_11 (blk p0 (.cells #[.int .i32 0, .int .u32 0, .int .u32 0, .int .u32 0, .int .i32 0, .int .i32 0, v0] 144) :: blk b_9 (.cells #[.int .i32 0, .int .u32 0, .int .u32 0, .int .u32 0, .int .i32 0, .int .i32 0, .pointer (some ⟨b_4, 0, none⟩)] 144) :: blk b_4 (.cells #[.map (some m_5)] 145) :: OwnS m_5 l_6 :: H) := S
  replace h0 := h0.le hM_11
  replace shb0 := hM_11.2 _ _ shb0
  replace shm0 := shm0.le hM_11
  refine WL_nil ?_
  refine T_n ?_
  refine WP_seq ?_
  refine WP_region ?_
  refine S_v E rfl (R_move E rfl) rfl ?_
  clear E a; intro a E
  refine S_v E rfl (R_ifaceP E rfl Tryz.underlying114) rfl ?_
  clear E a; intro a E
  refine S_v E rfl (R_assign E rfl) rfl ?_
  clear E a; intro a E
  refine WL_nil ?_
  refine T_n ?_
  refine WP_ret ?_
  replace S := S.front3
  replace S := S.front3
  replace S := S.front3
  replace S := S.front3
  exact F_ret1 E Tryz.results171 rfl ⟨_, rfl, M_11, _, (hM_1.trans (hM_2.trans (hM_3.trans (hM_10.trans hM_11)))), ⟨_, _, _, _, rfl, rfl, (by assumption), (by assumption)⟩, S⟩

set_option maxRecDepth 100000 in
set_option maxHeartbeats 4000000 in
theorem reg_Intersect {M : Hp} {x0 : Bool} {v : Value} {t : List RG} {i : Nat} {x : RG} {j : Nat} {y : RG} (hx : t[i]? = some x) (hy : t[j]? = some y) (hb : x.2.2.length ≤ 1000000000) (hb2 : y.2.2.length ≤ 1000000000) :
    InvSp Tryz.prog (ifv KS x0 x) "Intersect" M [ifv KS x0 y] [Regs KS x0 v t] (fun r _ C' => ∃ D, C' = Regs KS x0 v t :: D ∧ ∃ x' : RG, r = ifv KS x0 x' ∧ x'.2.2 = setInt x.2.2 y.2.2 ∧ D = [SetI KS x0 x']) := by
  refine reg_look2 hx hy (fun M' hM hr hs => ?_) (fun e9 M' hM hr => ?_)
  · cases x0
    · exact lookU (F := [lkI KS false x, lkI KS false y]) (newU (InvSp.of_sp (fun w => meth_116_Intersect _ w) Tryz.call195 (spConv (O_Intersect hr hs hb hb2) fun r M2 C ⟨b, m, l, h1, h2, h3, h4⟩ => ⟨b, m, l, h1, h2, h3, fun z => (h4 z).trans (by rw [mem_int])⟩))) fun r M2 C h => h
    · exact newS2 (K := KS) (InvSp.of_sp (fun w => meth_114_Intersect _ w) Tryz.call171 (spConv (OS_Intersect hr hs hb hb2) fun r M2 C ⟨p, b, m, l, h1, h2, h3, h4⟩ => ⟨p, b, m, l, h1, h2, h3, fun z => (h4 z).trans (by rw [mem_int])⟩))
  · subst e9
    cases x0
    · exact lookU (F := [lkI KS false y]) (newU (InvSp.of_sp (fun w => meth_116_Intersect _ w) Tryz.call195 (spConv (O_Intersect hr hr hb hb) fun r M2 C ⟨b, m, l, h1, h2, h3, h4⟩ => ⟨b, m, l, h1, h2, h3, fun z => (h4 z).trans (by rw [mem_int])⟩))) fun r M2 C h => h
    · exact newS1 (K := KS) (InvSp.of_sp (fun w => meth_114_Intersect _ w) Tryz.call171 (spConv (AS_Intersect hr hb) fun r M2 C ⟨p, b, m, l, h1, h2, h3, h4⟩ => ⟨p, b, m, l, h1, h2, h3, fun z => (h4 z).trans (by rw [mem_int])⟩))

set_option maxRecDepth 100000 in
set_option maxHeartbeats 4000000 in
theorem O_Difference {M : Hp} {v0 : Value} {c0 : List Int} (h0 : RdSU 145 M v0 c0) {v1 : Value} {c1 : List Int} (h1 : RdSU 145 M v1 c1) (b0 : c0.length ≤ 1000000000) (b1 : c1.length ≤ 1000000000)  :
    Sp Tryz.prog (.func (.func 193) #[] #[]) M [v0, .iface 116 v1] [] (fun r M' C' => ∃ b_ m_ l_, C' = [blk b_ (.cells #[.map (some m_)] 145), OwnS m_ l_] ∧ r = .iface 116 (.pointer (some ⟨b_, 0, none⟩)) ∧ (l_.Nodup) ∧ (∀ z, z ∈ l_ ↔ z ∈ c0 ∧ z ∉ c1)) := by
  refine Sp_enter Tryz.func193 rfl Tryz.ntmps193 rfl Tryz.call193 ?_
  intro a w M1 H hM1 S E
  replace h0 := h0.le hM1
  replace h1 := h1.le hM1
  have hcl0 := card_le c0
  have hcl1 := card_le c1
  refine WP_seq ?_
  refine WP_region ?_
  refine S_v E rfl (R_assign E rfl) rfl ?_
  clear E a; intro a E
  refine WL_nil ?_
  refine T_n ?_
  refine WP_seq ?_
  refine WP_region ?_
  refine S_v E rfl (R_move E rfl) rfl ?_
  clear E a; intro a E
  refine S_v E rfl (R_assert E rfl Tryz.underlying116 (by intro z hz; cases hz)) rfl ?_
  clear E a; intro a E
  refine S_v E rfl (R_assign E rfl) rfl ?_
  clear E a; intro a E
  refine WL_nil ?_
  refine T_n ?_
  refine WP_seq ?_
  refine WP_region ?_
  refine S_v E rfl (R_move E rfl) rfl ?_
  clear E a; intro a E
  refine S_x (X_pu E S rfl rfl rfl (U_Cardinality h0 (by first | assumption | omega)) (Hp.le.refl _) ?_)
  clear E a S; rintro a _ w M_1 hM_1 rfl S E
  replace h0 := h0.le hM_1
  replace h1 := h1.le hM_1
  refine S_x (X_makeMapR E S rfl MT145 rfl ?_)
  clear E a S; rintro a w b_2 E S
  replace S : St w M_1 (OwnS b_2 ([] : List Int) :: _) := S
  refine S_x (X_alloc (cs := #[.map none]) E S rfl Tryz.zeroValue145 rfl ?_)
  clear E a S; rintro a w b_3 E S
  refine S_x0 (X_store E S rfl rfl (Tryz.sizeOf145 _) rfl ?_)
  clear E a S; rintro a w E S
  refine WL_nil ?_
  refine T_n ?_
  refine WP_seq ?_
  refine WP_seq ?_
  refine WP_region ?_
  refine S_v E rfl (R_move E rfl) rfl ?_
  clear E a; intro a E
  have hset := h0
  obtain ⟨sb0, sm0, sq0, se0, shb0, shm0, shn0, shq0⟩ := hset
  have shq0l : sq0.length ≤ c0.length := nodup_len shn0 fun z hz => (shq0 z).1 hz
  refine S_v E rfl (R_nilCheck E rfl se0) rfl ?_
  clear E a; intro a E
  refine S_v E rfl (R_loadM E (congrArg some se0) Tryz.isAgg145 S.imm (cellM_box shb0)) rfl ?_
  clear E a; intro a E
  refine S_x (X_range E S rfl MT145 shm0 rfl ?_)
  clear E a S; rintro a w i_4 es_5 ck_6 E hf_7 S
  replace S : St w M_1 (ItO sm0 es_5 ck_6 i_4 (Sl.encS ([] : List Int)) :: _) := S
  refine WL_nil ?_
  refine T_n ?_
  refine WP_block ?_
  replace S := S.front2
  replace S := S.front1
  replace S := S.front1
  replace S := S.reM (L' := (Sl.encS (addsL [] (([]).filter (fun z => decide (z ∉ c1)))))) (congrArg Sl.encS (show ([] : List Int) = (addsL [] (([]).filter (fun z => decide (z ∉ c1)))) by (first | rfl | (simp [addsL_snoc]; done) | (simp [addsL_snoc, List.filter_append, *]; done))))
  replace S := S.front1
  replace S := S.reIt (p' := (Sl.encS [])) (congrArg Sl.encS (show ([] : List Int) = [] by (first | rfl | (simp [addsL_snoc]; done) | (simp [addsL_snoc, List.filter_append, *]; done))))
  refine WP_loop (γ := List Int) (fun (p : List Int) a w => ∃ (M_8 : Hp), Hp.le M_1 M_8 ∧ St w M_8 (ItO sm0 es_5 ck_6 i_4 (Sl.encS p) :: OwnS b_2 (addsL [] ((p).filter (fun z => decide (z ∉ c1)))) :: blk b_3 (.cells #[.map (some b_2)] 145) :: H) ∧ Env a 28 [] [(5, v1), (6, .pointer (some ⟨b_3, 0, none⟩)), (16, .pointer (some ⟨i_4, 0, none⟩))] ∧ (p.Nodup) ∧ (∀ z ∈ p, z ∈ sq0) ∧ (p.length ≤ sq0.length)) (fun p => sq0.length - p.length) [] ⟨M_1, Hp.le.refl _, S, E.keep ⟨rfl, rfl, rfl, trivial⟩, (by simp), (by simp), (by simp)⟩ ?_
  try clear E
  try clear S
  try clear a
  try clear w
  rintro p a w ⟨M_8, hM_8, S, E, hL0_0, hL0_1, hL0_2⟩
  replace h0 := h0.le hM_8
  replace h1 := h1.le hM_8
  replace shb0 := hM_8.2 _ _ shb0
  replace shm0 := shm0.le hM_8
  replace hf_7 := hf_7.le hM_8
  refine WP_seq ?_
  refine WP_region ?_
  refine S_x (X_nextS E S rfl hf_7 rfl (by assumption) (by assumption) ?_ ?_)
  · clear E a S; rintro a E hpm_9 S
    refine S_v E rfl (R_extract E rfl rfl) rfl ?_
    clear E a; intro a E
    refine WL_nil ?_
    refine T_n ?_
    refine WP_seq ?_
    refine WP_condF E rfl rfl ?_
    refine WP_exit ?_
    refine T_x ?_
    refine T_x ?_
    refine B_x ?_
    refine T_n ?_
    refine WP_seq ?_
    refine WP_region ?_
    refine S_v E rfl (R_ifaceP E rfl Tryz.underlying116) rfl ?_
    clear E a; intro a E
    refine S_v E rfl (R_assign E rfl) rfl ?_
    clear E a; intro a E
    refine WL_nil ?_
    refine T_n ?_
    refine WP_ret ?_
    replace S := S.drop
    replace S := S.front1
    exact F_ret1 E Tryz.results193 rfl ⟨_, rfl, M_8, _, (hM_1.trans hM_8), ⟨_, _, _, rfl, rfl, (by (first | assumption | exact addsL_nodup _ _ List.nodup_nil | exact addsL_nodup _ _ (addsL_nodup _ _ List.nodup_nil))), (by (intro z; have ep := (List.Perm.mem_iff (a := z) (show p.Perm sq0 by first | assumption | (exact List.Perm.symm (by assumption)))).trans (shq0 z); simp only [mem_addsL, List.not_mem_nil, false_or, List.mem_append, List.mem_filter, decide_eq_true_eq, List.nil_append]; simp only [ep]))⟩, S⟩
  · clear E a S w; rintro a w k_10 E hk_11 hk_11n hk_11l S
    refine S_v E rfl (R_extract E rfl rfl) rfl ?_
    clear E a; intro a E
    refine WL_nil ?_
    refine T_n ?_
    refine WP_seq ?_
    refine WP_condT E rfl rfl ?_
    refine WP_skip ?_
    refine T_n ?_
    refine WP_block ?_
    refine WP_seq ?_
    refine WP_region ?_
    refine S_v E rfl (R_entry (k := k_10) (v := .agg #[]) E (by have S1 := S; simp only [Sl.encS, List.map_append, List.map_cons, List.map_nil] at S1; exact S1) hf_7 rfl) rfl ?_
    clear E a; intro a E
    refine S_v E rfl (R_extract E rfl rfl) rfl ?_
    clear E a; intro a E
    refine S_v E rfl (R_assign E rfl) rfl ?_
    clear E a; intro a E
    refine WL_nil ?_
    refine T_n ?_
    refine WP_seq ?_
    refine WP_region ?_
    refine S_v E rfl (R_move E rfl) rfl ?_
    clear E a; intro a E
    refine S_v E rfl (R_move E rfl) rfl ?_
    clear E a; intro a E
    refine S_x (X_pu E S rfl rfl rfl (U_contains h1 (by first | assumption | omega)) (Hp.le.refl _) ?_)
    clear E a S; rintro a _ w M_12 hM_12 rfl S E
    replace h0 := h0.le hM_12
    replace h1 := h1.le hM_12
    replace shb0 := hM_12.2 _ _ shb0
    replace shm0 := shm0.le hM_12
    replace hf_7 := hf_7.le hM_12
    refine S_v E rfl (R_not E rfl) rfl ?_
    clear E a; intro a E
    refine WL_nil ?_
    refine T_n ?_
    refine WP_cond E rfl (fun hc_13 => ?_) (fun hc_13 => ?_)
    · refine WP_region ?_
      refine S_v E rfl (R_move E rfl) rfl ?_
      clear E a; intro a E
      replace S := S.front1
      replace S := S.front2
      refine S_x (X_sp (p := [blk b_3 (.cells #[.map (some b_2)] 145), OwnS b_2 (addsL [] ((p).filter (fun z => decide (z ∉ c1))))]) E S rfl rfl rfl (U_add) (Hp.le.refl _) ?_)
      clear E a S; rintro a _ w M_14 _ hM_14 ⟨rfl, rfl⟩ S E
      replace S : St w M_14 (blk b_3 (.cells #[.map (some b_2)] 145) :: OwnS b_2 (addS (addsL [] ((p).filter (fun z => decide (z ∉ c1)))) k_10) :: ItO sm0 es_5 ck_6 i_4 (Sl.encS (p ++ [k_10])) :: H) := S
      replace h0 := h0.le hM_14
      replace h1 := h1.le hM_14
      replace shb0 := hM_14.2 _ _ shb0
      replace shm0 := shm0.le hM_14
      replace hf_7 := hf_7.le hM_14
      refine WL_nil ?_
      refine B_n ?_
      refine T_n ?_
      replace S := S.front1
      replace S := S.front2
      replace S := S.front1
      replace S := S.reM (L' := (Sl.encS (addsL [] (((p ++ [k_10])).filter (fun z => decide (z ∉ c1)))))) (congrArg Sl.encS (show addS (addsL [] ((p).filter (fun z => decide (z ∉ c1)))) k_10 = (addsL [] (((p ++ [k_10])).filter (fun z => decide (z ∉ c1)))) by (first | rfl | (simp [addsL_snoc]; done) | (simp [addsL_snoc, List.filter_append, *]; done))))
      replace S := S.front1
      replace S := S.reIt (p' := (Sl.encS (p ++ [k_10]))) (congrArg Sl.encS (show p ++ [k_10] = (p ++ [k_10]) by (first | rfl | (simp [addsL_snoc]; done) | (simp [addsL_snoc, List.filter_append, *]; done))))
      exact ⟨(p ++ [k_10]), ⟨M_14, (hM_8.trans (hM_12.trans hM_14)), S, E.keep ⟨rfl, rfl, rfl, trivial⟩, (by exact snocN (by assumption) (by assumption)), (by exact snocS (by assumption) (by assumption)), (by simp; omega)⟩, (by simp; omega)⟩
    · refine WP_skip ?_
      refine B_n ?_
      refine T_n ?_
      replace S := S.front1
      replace S := S.reM (L' := (Sl.encS (addsL [] (((p ++ [k_10])).filter (fun z => decide (z ∉ c1)))))) (congrArg Sl.encS (show (addsL [] ((p).filter (fun z => decide (z ∉ c1)))) = (addsL [] (((p ++ [k_10])).filter (fun z => decide (z ∉ c1)))) by (first | rfl | (simp [addsL_snoc]; done) | (simp [addsL_snoc, List.filter_append, *]; done))))
      replace S := S.front1
      replace S := S.reIt (p' := (Sl.encS (p ++ [k_10]))) (congrArg Sl.encS (show p ++ [k_10] = (p ++ [k_10]) by (first | rfl | (simp [addsL_snoc]; done) | (simp [addsL_snoc, List.filter_append, *]; done))))
      exact ⟨(p ++ [k_10]), ⟨M_12, (hM_8.trans hM_12), S, E.keep ⟨rfl, rfl, rfl, trivial⟩, (by exact snocN (by assumption) (by assumption)), (by exact snocS (by assumption) (by assumption)), (by simp; omega)⟩, (by simp; omega)⟩

set_option maxRecDepth 100000 in
set_option maxHeartbeats 4000000 in
theorem OS_Difference {M : Hp} {p0 : Nat} {v0 : Value} {c0 : List Int} (h0 : RdSU 145 M v0 c0) {p1 : Nat} {v1 : Value} {c1 : List Int} (h1 : RdSU 145 M v1 c1) (b0 : c0.length ≤ 1000000000) (b1 : c1.length ≤ 1000000000)  :
    Sp Tryz.prog (.func (.func 168) #[] #[]) M [.pointer (some ⟨p0, 0, none⟩), .iface 114 (.pointer (some ⟨p1, 0, none⟩))] [blk p0 (.cells #[.int .i32 0, .int .u32 0, .int .u32 0, .int .u32 0, .int .i32 0, .int .i32 0, v0] 144), blk p1 (.cells #[.int .i32 0, .int .u32 0, .int .u32 0, .int .u32 0, .int .i32 0, .int .i32 0, v1] 144)] (fun r M' C' => ∃ p_ b_ m_ l_, C' = [blk p0 (.cells #[.int .i32 0, .int .u32 0, .int .u32 0, .int .u32 0, .int .i32 0, .int .i32 0, v0] 144), blk p1 (.cells #[.int .i32 0, .int .u32 0, .int .u32 0, .int .u32 0, .int .i32 0, .int .i32 0, v1] 144), blk p_ (.cells #[.int .i32 0, .int .u32 0, .int .u32 0, .int .u32 0, .int .i32 0, .int .i32 0, .pointer (some ⟨b_, 0, none⟩)] 144), blk b_ (.cells #[.map (some m_)] 145), OwnS m_ l_] ∧ r = .iface 114 (.pointer (some ⟨p_, 0, none⟩)) ∧ (l_.Nodup) ∧ (∀ z, z ∈ l_ ↔ z ∈ c0 ∧ z ∉ c1)) := by
  refine Sp_enter Tryz.func168 rfl Tryz.ntmps168 rfl Tryz.call168 ?_
  intro a w M1 H hM1 S E
  replace S : St w M1 (blk p0 (.cells #[.int .i32 0, .int .u32 0, .int .u32 0, .int .u32 0, .int .i32 0, .int .i32 0, v0] 144) :: blk p1 (.cells #[.int .i32 0, .int .u32 0, .int .u32 0, .int .u32 0, .int .i32 0, .int .i32 0, v1] 144) :: _) := S
  replace h0 := h0.le hM1
  replace h1 := h1.le hM1
  have hset := h0
  obtain ⟨sb0, sm0, sq0, se0, shb0, shm0, shn0, shq0⟩ := hset
  have shq0l : sq0.length ≤ c0.length := nodup_len shn0 fun z hz => (shq0 z).1 hz
  have hset := h1
  obtain ⟨sb1, sm1, sq1, se1, shb1, shm1, shn1, shq1⟩ := hset
  have shq1l : sq1.length ≤ c1.length := nodup_len shn1 fun z hz => (shq1 z).1 hz
  refine WP_seq ?_
  refine WP_region ?_
  refine S_v E rfl (R_assign E rfl) rfl ?_
  clear E a; intro a E
  refine WL_nil ?_
  refine T_n ?_
  refine WP_seq ?_
  refine WP_region ?_
  refine S_v E rfl (R_move E rfl) rfl ?_
  clear E a; intro a E
  refine S_v E rfl (R_assert E rfl Tryz.underlying114 (by intro z hz; cases hz)) rfl ?_
  clear E a; intro a E
  refine S_v E rfl (R_assign E rfl) rfl ?_
  clear E a; intro a E
  refine WL_nil ?_
  refine T_n ?_
  refine WP_seq ?_
  refine WP_region ?_
  refine S_v E rfl (R_move E rfl) rfl ?_
  clear E a; intro a E
  refine S_v E rfl (R_nilCheck E rfl rfl) rfl ?_
  clear E a; intro a E
  refine S_v E rfl (R_fieldAddr E rfl (FA144_0 _)) rfl ?_
  clear E a; intro a E
  replace S : St w M1 (LK p0 144 0 v0 :: _) := S
  refine S_x (X_sp (p := [LK p0 144 0 v0]) E S rfl rfl rfl (rlock_sp Tryz.rwRLib (T := 144) (n := 0) (by decide) (by decide)) (Hp.le.refl _) ?_)
  clear E a S; rintro a _ w M_1 _ hM_1 ⟨rfl, rfl⟩ S E
  replace S : St w M_1 (blk p0 (.cells #[.int .i32 0, .int .u32 0, .int .u32 0, .int .u32 0, .int .i32 1, .int .i32 0, v0] 144) :: blk p1 (.cells #[.int .i32 0, .int .u32 0, .int .u32 0, .int .u32 0, .int .i32 0, .int .i32 0, v1] 144) :: H) := S
  replace h0 := h0.le hM_1
  replace h1 := h1.le hM_1
  replace shb0 := hM_1.2 _ _ shb0
  replace shm0 := shm0.le hM_1
  replace shb1 := hM_1.2 _ _ shb1
  replace shm1 := shm1.le hM_1
  refine WL_nil ?_
  refine T_n ?_
  refine WP_seq ?_
  refine WP_region ?_
  refine S_v E rfl (R_move E rfl) rfl ?_
  clear E a; intro a E
  refine S_v E rfl (R_nilCheck E rfl rfl) rfl ?_
  clear E a; intro a E
  refine S_v E rfl (R_fieldAddr E rfl (FA144_0 _)) rfl ?_
  clear E a; intro a E
  replace S := S.front1
  replace S : St w M_1 (LK p1 144 0 v1 :: _) := S
  refine S_x (X_sp (p := [LK p1 144 0 v1]) E S rfl rfl rfl (rlock_sp Tryz.rwRLib (T := 144) (n := 0) (by decide) (by decide)) (Hp.le.refl _) ?_)
  clear E a S; rintro a _ w M_2 _ hM_2 ⟨rfl, rfl⟩ S E
  replace S : St w M_2 (blk p1 (.cells #[.int .i32 0, .int .u32 0, .int .u32 0, .int .u32 0, .int .i32 1, .int .i32 0, v1] 144) :: blk p0 (.cells #[.int .i32 0, .int .u32 0, .int .u32 0, .int .u32 0, .int .i32 1, .int .i32 0, v0] 144) :: H) := S
  replace h0 := h0.le hM_2
  replace h1 := h1.le hM_2
  replace shb0 := hM_2.2 _ _ shb0
  replace shm0 := shm0.le hM_2
  replace shb1 := hM_2.2 _ _ shb1
  replace shm1 := shm1.le hM_2
  refine WL_nil ?_
  refine T_n ?_
  refine WP_seq ?_
  replace S := S.mono_heap (w' := World.drew _) rfl
  refine WP_drawn (C := fun x w => agree M_2 w ∧ (x = 3 → w.heap[p0]? = some (.cells #[.int .i32 0, .int .u32 0, .int .u32 0, .int .u32 0, .int .i32 1, .int .i32 0, v0] 144)) ∧ (x = 7 → w.heap[p1]? = some (.cells #[.int .i32 0, .int .u32 0, .int .u32 0, .int .u32 0, .int .i32 1, .int .i32 0, v1] 144))) (bf := (fun i => bif Nat.beq i 9 then [3, 7] else [])) [0, 1, 2, 3, 4, 5, 6, 7, 8, 10, 11] [0, 1, 2, 3, 4, 5, 6, 7, 8, 9, 10, 11] Tryz.mixed (by kernel_rfl) (fun x hq => ⟨S.imm, fun _ => (S.mem (.tail _ (.head _))), fun _ => (S.mem (.head _))⟩) ?_
  refine D_v E rfl rfl rfl (fun w hC => (R_move E rfl)) ?_
  clear E a; intro a E
  refine D_v E rfl rfl rfl (fun w hC => (R_nilCheck E rfl rfl)) ?_
  clear E a; intro a E
  refine D_v E rfl rfl rfl (fun w hC => (R_fieldAddr E rfl (FA144_1 _))) ?_
  clear E a; intro a E
  refine D_v E rfl rfl rfl (fun w hC => (R_load E rfl (Tryz.isAgg116 _) (cell_blkf (hC.2.1 rfl) rfl))) ?_
  clear E a; intro a E
  refine D_v E rfl rfl rfl (fun w hC => (R_move E rfl)) ?_
  clear E a; intro a E
  refine D_v E rfl rfl rfl (fun w hC => (R_nilCheck E rfl rfl)) ?_
  clear E a; intro a E
  refine D_v E rfl rfl rfl (fun w hC => (R_fieldAddr E rfl (FA144_1 _))) ?_
  clear E a; intro a E
  refine D_v E rfl rfl rfl (fun w hC => (R_load E rfl (Tryz.isAgg116 _) (cell_blkf (hC.2.2 rfl) rfl))) ?_
  clear E a; intro a E
  refine D_v E rfl rfl rfl (fun w hC => (R_ifaceP E rfl Tryz.underlying116)) ?_
  clear E a; intro a E
  refine D_x rfl rfl rfl (X_sp (p := []) E S rfl rfl rfl (O_Difference h0 h1 (by first | assumption | omega) (by first | assumption | omega)) (Hp.le.refl _) ?_)
  clear E a S; rintro a _ w M_3 _ hM_3 ⟨b_4, m_5, l_6, rfl, rfl, hx_7, hx_8⟩ S E
  replace S : St w M_3 (blk b_4 (.cells #[.map (some m_5)] 145) :: OwnS m_5 l_6 :: blk p1 (.cells #[.int .i32 0, .int .u32 0, .int .u32 0, .int .u32 0, .int .i32 1, .int .i32 0, v1] 144) :: blk p0 (.cells #[.int .i32 0, .int .u32 0, .int .u32 0, .int .u32 0, .int .i32 1, .int .i32 0, v0] 144) :: H) := S
  replace h0 := h0.le hM_3
  replace h1 := h1.le hM_3
  replace shb0 := hM_3.2 _ _ shb0
  replace shm0 := shm0.le hM_3
  replace shb1 := hM_3.2 _ _ shb1
  replace shm1 := shm1.le hM_3
  refine ⟨fun x hq hb => ⟨(agree_le hM_3 S.imm), (fun e => by subst e; exact absurd hb (by decide)), (fun e => by subst e; exact absurd hb (by decide))⟩, ?_⟩
  refine D_v E rfl rfl rfl (fun w hC => (R_assert E rfl Tryz.underlying116 (by intro z hz; cases hz))) ?_
  clear E a; intro a E
  refine D_v E rfl rfl rfl (fun w hC => (R_assign E rfl)) ?_
  clear E a; intro a E
  refine D_end (NoP_n ?_)
  refine T_n ?_
  refine WP_seq ?_
  refine WP_region ?_
  refine S_v E rfl (R_move E rfl) rfl ?_
  clear E a; intro a E
  refine S_v E rfl (R_build (u := .agg #[.int .i32 0, .int .u32 0, .int .u32 0, .int .u32 0, .int .i32 0, .int .i32 0, .pointer (some ⟨b_4, 0, none⟩)]) (vs := [.pointer (some ⟨b_4, 0, none⟩)]) E rfl (fun w => BLK144 _ w)) rfl ?_
  clear E a; intro a E
  refine S_x (X_box (cs := #[.int .i32 0, .int .u32 0, .int .u32 0, .int .u32 0, .int .i32 0, .int .i32 0, .pointer (some ⟨b_4, 0, none⟩)]) E S rfl rfl rfl ?_)
  clear E a S; rintro a w b_9 E S
  refine S_v E rfl (R_assign E rfl) rfl ?_
  clear E a; intro a E
  refine WL_nil ?_
  refine T_n ?_
  refine WP_seq ?_
  refine WP_region ?_
  refine S_v E rfl (R_move E rfl) rfl ?_
  clear E a; intro a E
  refine S_v E rfl (R_nilCheck E rfl rfl) rfl ?_
  clear E a; intro a E
  refine S_v E rfl (R_fieldAddr E rfl (FA144_0 _)) rfl ?_
  clear E a; intro a E
  replace S := S.front4
  replace S : St w M_3 (LK p0 144 (0 + 1) v0 :: _) := S
  refine S_x (X_sp (p := [LK p0 144 (0 + 1) v0]) E S rfl rfl rfl (runlock_sp Tryz.rwRLib (T := 144) (n := 0) (by decide) (by decide)) (Hp.le.refl _) ?_)
  clear E a S; rintro a _ w M_10 _ hM_10 ⟨rfl, rfl⟩ S E
  replace S : St w M_10 (blk p0 (.cells #[.int .i32 0, .int .u32 0, .int .u32 0, .int .u32 0, .int .i32 0, .int .i32 0, v0] 144) :: blk b_9 (.cells #[.int .i32 0, .int .u32 0, .int .u32 0, .int .u32 0, .int .i32 0, .int .i32 0, .pointer (some ⟨b_4, 0, none⟩)] 144) :: blk b_4 (.cells #[.map (some m_5)] 145) :: OwnS m_5 l_6 :: blk p1 (.cells #[.int .i32 0, .int .u32 0, .int .u32 0, .int .u32 0, .int .i32 1, .int .i32 0, v1] 144) :: H) := S
  replace h0 := h0.le hM_10
  replace h1 := h1.le hM_10
  replace shb0 := hM_10.2 _ _ shb0
  replace shm0 := shm0.le hM_10
  replace shb1 := hM_10.2 _ _ shb1
  replace shm1 := shm1.le hM_10
  refine WL_nil ?_
  refine T_n ?_
  refine WP_seq ?_
  refine WP_region ?_
  refine S_v E rfl (R_move E rfl) rfl ?_
  clear E a; intro a E
  refine S_v E rfl (R_nilCheck E rfl rfl) rfl ?_
  clear E a; intro a E
  refine S_v E rfl (R_fieldAddr E rfl (FA144_0 _)) rfl ?_
  clear E a; intro a E
  replace S := S.front4
  replace S : St w M_10 (LK p1 144 (0 + 1) v1 :: _) := S
  refine S_x (X_sp (p := [LK p1 144 (0 + 1) v1]) E S rfl rfl rfl (runlock_sp Tryz.rwRLib (T := 144) (n := 0) (by decide) (by decide)) (Hp.le.refl _) ?_)
  clear E a S; rintro a _ w M_11 _ hM_11 ⟨rfl, rfl⟩ S E
  replace S : St w M_11 (blk p1 (.cells #[.int .i32 0, .int .u32 0, .int .u32 0, .int .u32 0, .int .i32 0, .int .i32 0, v1] 144) :: blk p0 (.cells #[.int .i32 0, .int .u32 0, .int .u32 0, .int .u32 0, .int .i32 0, .int .i32 0, v0] 144) :: blk b_9 (.cells #[.int .i32 0, .int .u32 0, .int .u32 0, .int .u32 0, .int .i32 0, .int .i32 0, .pointer (some ⟨b_4, 0, none⟩)] 144) :: blk b_4 (.cells #[.map (some m_5)] 145) :: OwnS m_5 l_6 :: H) := S
  replace h0 := h0.le hM_11
  replace h1 := h1.le hM_11
  replace shb0 := hM_11.2 _ _ shb0
  replace shm0 := shm0.le hM_11
  replace shb1 := hM_11.2 _ _ shb1
  replace shm1 := shm1.le hM_11
  refine WL_nil ?_
  refine T_n ?_
  refine WP_seq ?_
  refine WP_region ?_
  refine S_v E rfl (R_move E rfl) rfl ?_
  clear E a; intro a E
  refine S_v E rfl (R_ifaceP E rfl Tryz.underlying114) rfl ?_
  clear E a; intro a E
  refine S_v E rfl (R_assign E rfl) rfl ?_
  clear E a; intro a E
  refine WL_nil ?_
  refine T_n ?_
  refine WP_ret ?_
  replace S := S.front4
  replace S := S.front4
  replace S := S.front4
  replace S := S.front3
  replace S := S.front4
  exact F_ret1 E Tryz.results168 rfl ⟨_, rfl, M_11, _, (hM_1.trans (hM_2.trans (hM_3.trans (hM_10.trans hM_11)))), ⟨_, _, _, _, rfl, rfl, (by assumption), (by assumption)⟩, S⟩

set_option maxRecDepth 100000 in
set_option maxHeartbeats 4000000 in
theorem AS_Difference {M : Hp} {p0 : Nat} {v0 : Value} {c0 : List Int} (h0 : RdSU 145 M v0 c0) (b0 : c0.length ≤ 1000000000)  :
    Sp Tryz.prog (.func (.func 168) #[] #[]) M [.pointer (some ⟨p0, 0, none⟩), .iface 114 (.pointer (some ⟨p0, 0, none⟩))] [blk p0 (.cells #[.int .i32 0, .int .u32 0, .int .u32 0, .int .u32 0, .int .i32 0, .int .i32 0, v0] 144)] (fun r M' C' => ∃ p_ b_ m_ l_, C' = [blk p0 (.cells #[.int .i32 0, .int .u32 0, .int .u32 0, .int .u32 0, .int .i32 0, .int .i32 0, v0] 144), blk p_ (.cells #[.int .i32 0, .int .u32 0, .int .u32 0, .int .u32 0, .int .i32 0, .int .i32 0, .pointer (some ⟨b_, 0, none⟩)] 144), blk b_ (.cells #[.map (some m_)] 145), OwnS m_ l_] ∧ r = .iface 114 (.pointer (some ⟨p_, 0, none⟩)) ∧ (l_.Nodup) ∧ (∀ z, z ∈ l_ ↔ z ∈ c0 ∧ z ∉ c0)) := by
  refine Sp_enter Tryz.func168 rfl Tryz.ntmps168 rfl Tryz.call168 ?_
  intro a w M1 H hM1 S E
  replace S : St w M1 (blk p0 (.cells #[.int .i32 0, .int .u32 0, .int .u32 0, .int .u32 0, .int .i32 0, .int .i32 0, v0] 144) :: _) := S
  replace h0 := h0.le hM1
  have hset := h0
  obtain ⟨sb0, sm0, sq0, se0, shb0, shm0, shn0, shq0⟩ := hset
  have shq0l : sq0.length ≤ c0.length := nodup_len shn0 fun z hz => (shq0 z).1 hz
  refine WP_seq ?_
  refine WP_region ?_
  refine S_v E rfl (R_assign E rfl) rfl ?_
  clear E a; intro a E
  refine WL_nil ?_
  refine T_n ?_
  refine WP_seq ?_
  refine WP_region ?_
  refine S_v E rfl (R_move E rfl) rfl ?_
  clear E a; intro a E
  refine S_v E rfl (R_assert E rfl Tryz.underlying114 (by intro z hz; cases hz)) rfl ?_
  clear E a; intro a E
  refine S_v E rfl (R_assign E rfl) rfl ?_
  clear E a; intro a E
  refine WL_nil ?_
  refine T_n ?_
  refine WP_seq ?_
  refine WP_region ?_
  refine S_v E rfl (R_move E rfl) rfl ?_
  clear E a; intro a E
  refine S_v E rfl (R_nilCheck E rfl rfl) rfl ?_
  clear E a; intro a E
  refine S_v E rfl (R_fieldAddr E rfl (FA144_0 _)) rfl ?_
  clear E a; intro a E
  replace S : St w M1 (LK p0 144 0 v0 :: _) := S
  refine S_x (X_sp (p := [LK p0 144 0 v0]) E S rfl rfl rfl (rlock_sp Tryz.rwRLib (T := 144) (n := 0) (by decide) (by decide)) (Hp.le.refl _) ?_)
  clear E a S; rintro a _ w M_1 _ hM_1 ⟨rfl, rfl⟩ S E
  replace S : St w M_1 (blk p0 (.cells #[.int .i32 0, .int .u32 0, .int .u32 0, .int .u32 0, .int .i32 1, .int .i32 0, v0] 144) :: H) := S
  replace h0 := h0.le hM_1
  replace shb0 := hM_1.2 _ _ shb0
  replace shm0 := shm0.le hM_1
  refine WL_nil ?_
  refine T_n ?_
  refine WP_seq ?_
  refine WP_region ?_
  refine S_v E rfl (R_move E rfl) rfl ?_
  clear E a; intro a E
  refine S_v E rfl (R_nilCheck E rfl rfl) rfl ?_
  clear E a; intro a E
  refine S_v E rfl (R_fieldAddr E rfl (FA144_0 _)) rfl ?_
  clear E a; intro a E
  replace S : St w M_1 (LK p0 144 1 v0 :: _) := S
  refine S_x (X_sp (p := [LK p0 144 1 v0]) E S rfl rfl rfl (rlock_sp Tryz.rwRLib (T := 144) (n := 1) (by decide) (by decide)) (Hp.le.refl _) ?_)
  clear E a S; rintro a _ w M_2 _ hM_2 ⟨rfl, rfl⟩ S E
  replace S : St w M_2 (blk p0 (.cells #[.int .i32 0, .int .u32 0, .int .u32 0, .int .u32 0, .int .i32 2, .int .i32 0, v0] 144) :: H) := S
  replace h0 := h0.le hM_2
  replace shb0 := hM_2.2 _ _ shb0
  replace shm0 := shm0.le hM_2
  refine WL_nil ?_
  refine T_n ?_
  refine WP_seq ?_
  replace S := S.mono_heap (w' := World.drew _) rfl
  refine WP_drawn (C := fun x w => agree M_2 w ∧ (x = 3 → w.heap[p0]? = some (.cells #[.int .i32 0, .int .u32 0, .int .u32 0, .int .u32 0, .int .i32 2, .int .i32 0, v0] 144)) ∧ (x = 7 → w.heap[p0]? = some (.cells #[.int .i32 0, .int .u32 0, .int .u32 0, .int .u32 0, .int .i32 2, .int .i32 0, v0] 144))) (bf := (fun i => bif Nat.beq i 9 then [3, 7] else [])) [0, 1, 2, 3, 4, 5, 6, 7, 8, 10, 11] [0, 1, 2, 3, 4, 5, 6, 7, 8, 9, 10, 11] Tryz.mixed (by kernel_rfl) (fun x hq => ⟨S.imm, fun _ => (S.mem (.head _)), fun _ => (S.mem (.head _))⟩) ?_
  refine D_v E rfl rfl rfl (fun w hC => (R_move E rfl)) ?_
  clear E a; intro a E
  refine D_v E rfl rfl rfl (fun w hC => (R_nilCheck E rfl rfl)) ?_
  clear E a; intro a E
  refine D_v E rfl rfl rfl (fun w hC => (R_fieldAddr E rfl (FA144_1 _))) ?_
  clear E a; intro a E
  refine D_v E rfl rfl rfl (fun w hC => (R_load E rfl (Tryz.isAgg116 _) (cell_blkf (hC.2.1 rfl) rfl))) ?_
  clear E a; intro a E
  refine D_v E rfl rfl rfl (fun w hC => (R_move E rfl)) ?_
  clear E a; intro a E
  refine D_v E rfl rfl rfl (fun w hC => (R_nilCheck E rfl rfl)) ?_
  clear E a; intro a E
  refine D_v E rfl rfl rfl (fun w hC => (R_fieldAddr E rfl (FA144_1 _))) ?_
  clear E a; intro a E
  refine D_v E rfl rfl rfl (fun w hC => (R_load E rfl (Tryz.isAgg116 _) (cell_blkf (hC.2.2 rfl) rfl))) ?_
  clear E a; intro a E
  refine D_v E rfl rfl rfl (fun w hC => (R_ifaceP E rfl Tryz.underlying116)) ?_
  clear E a; intro a E
  refine D_x rfl rfl rfl (X_sp (p := []) E S rfl rfl rfl (O_Difference h0 h0 (by first | assumption | omega) (by first | assumption | omega)) (Hp.le.refl _) ?_)
  clear E a S; rintro a _ w M_3 _ hM_3 ⟨b_4, m_5, l_6, rfl, rfl, hx_7, hx_8⟩ S E
  replace S : St w M_3 (blk b_4 (.cells #[.map (some m_5)] 145) :: OwnS m_5 l_6 :: blk p0 (.cells #[.int .i32 0, .int .u32 0, .int .u32 0, .int .u32 0, .int .i32 2, .int .i32 0, v0] 144) :: H) := S
  replace h0 := h0.le hM_3
  replace shb0 := hM_3.2 _ _ shb0
  replace shm0 := shm0.le hM_3
  refine ⟨fun x hq hb => ⟨(agree_le hM_3 S.imm), (fun e => by subst e; exact absurd hb (by decide)), (fun e => by subst e; exact absurd hb (by decide))⟩, ?_⟩
  refine D_v E rfl rfl rfl (fun w hC => (R_assert E rfl Tryz.underlying116 (by intro z hz; cases hz))) ?_
  clear E a; intro a E
  refine D_v E rfl rfl rfl (fun w hC => (R_assign E rfl)) ?_
  clear E a; intro a E
  refine D_end (NoP_n ?_)
  refine T_n ?_
  refine WP_seq ?_
  refine WP_region ?_
  refine S_v E rfl (R_move E rfl) rfl ?_
  clear E a; intro a E
  refine S_v E rfl (R_build (u := .agg #[.int .i32 0, .int .u32 0, .int .u32 0, .int .u32 0, .int .i32 0, .int .i32 0, .pointer (some ⟨b_4, 0, none⟩)]) (vs := [.pointer (some ⟨b_4, 0, none⟩)]) E rfl (fun w => BLK144 _ w)) rfl ?_
  clear E a; intro a E
  refine S_x (X_box (cs := #[.int .i32 0, .int .u32 0, .int .u32 0, .int .u32 0, .int .i32 0, .int .i32 0, .pointer (some ⟨b_4, 0, none⟩)]) E S rfl rfl rfl ?_)
  clear E a S; rintro a w b_9 E S
  refine S_v E rfl (R_assign E rfl) rfl ?_
  clear E a; intro a E
  refine WL_nil ?_
  refine T_n ?_
  refine WP_seq ?_
  refine WP_region ?_
  refine S_v E rfl (R_move E rfl) rfl ?_
  clear E a; intro a E
  refine S_v E rfl (R_nilCheck E rfl rfl) rfl ?_
  clear E a; intro a E
  refine S_v E rfl (R_fieldAddr E rfl (FA144_0 _)) rfl ?_
  clear E a; intro a E
  replace S := S.front3
  replace S : St w M_3 (LK p0 144 (1 + 1) v0 :: _) := S
  refine S_x (X_sp (p := [LK p0 144 (1 + 1) v0]) E S rfl rfl rfl (runlock_sp Tryz.rwRLib (T := 144) (n := 1) (by decide) (by decide)) (Hp.le.refl _) ?_)
  clear E a S; rintro a _ w M_10 _ hM_10 ⟨rfl, rfl⟩ S E
  replace S : St w M_10 (blk p0 (.cells #[.int .i32 0, .int .u32 0, .int .u32 0, .int .u32 0, .int .i32 1, .int .i32 0, v0] 144) :: blk b_9 (.cells #[.int .i32 0, .int .u32 0, .int .u32 0, .int .u32 0, .int .i32 0, .int .i32 0, .pointer (some ⟨b_4, 0, none⟩)] 144) :: blk b_4 (.cells #[.map (some m_5)] 145) :: OwnS m_5 l_6 :: H) := S
  replace h0 := h0.le hM_10
  replace shb0 := hM_10.2 _ _ shb0
  replace shm0 := shm0.le hM_10
  refine WL_nil ?_
  refine T_n ?_
  refine WP_seq ?_
  refine WP_region ?_
  refine S_v E rfl (R_move E rfl) rfl ?_
  clear E a; intro a E
  refine S_v E rfl (R_nilCheck E rfl rfl) rfl ?_
  clear E a; intro a E
  refine S_v E rfl (R_fieldAddr E rfl (FA144_0 _)) rfl ?_
  clear E a; intro a E
  replace S : St w M_10 (LK p0 144 (0 + 1) v0 :: _) := S
  refine S_x (X_sp (p := [LK p0 144 (0 + 1) v0]) E S rfl rfl rfl (runlock_sp Tryz.rwRLib (T := 144) (n := 0) (by decide) (by decide)) (Hp.le.refl _) ?_)
  clear E a S; rintro a _ w M_11 _ hM_11 ⟨rfl, rfl⟩ S E
  replace S : St w M_11 (blk p0 (.cells #[.int .i32 0, .int .u32 0, .int .u32 0, .int .u32 0, .int .i32 0, .int .i32 0, v0] 144) :: blk b_9 (.cells #[.int .i32 0, .int .u32 0, .int .u32 0, .int .u32 0, .int .i32 0, .int .i32 0, .pointer (some ⟨b_4, 0, none⟩)] 144) :: blk b_4 (.cells #[.map (some m_5)] 145) :: OwnS m_5 l_6 :: H) := S
  replace h0 := h0.le hM_11
  replace shb0 := hM_11.2 _ _ shb0
  replace shm0 := shm0.le hM_11
  refine WL_nil ?_
  refine T_n ?_
  refine WP_seq ?_
  refine WP_region ?_
  refine S_v E rfl (R_move E rfl) rfl ?_
  clear E a; intro a E
  refine S_v E rfl (R_ifaceP E rfl Tryz.underlying114) rfl ?_
  clear E a; intro a E
  refine S_v E rfl (R_assign E rfl) rfl ?_
  clear E a; intro a E
  refine WL_nil ?_
  refine T_n ?_
  refine WP_ret ?_
  replace S := S.front3
  replace S := S.front3
  replace S := S.front3
  replace S := S.front3
  exact F_ret1 E Tryz.results168 rfl ⟨_, rfl, M_11, _, (hM_1.trans (hM_2.trans (hM_3.trans (hM_10.trans hM_11)))), ⟨_, _, _, _, rfl, rfl, (by assumption), (by assumption)⟩, S⟩

set_option maxRecDepth 100000 in
set_option maxHeartbeats 4000000 in
theorem reg_Difference {M : Hp} {x0 : Bool} {v : Value} {t : List RG} {i : Nat} {x : RG} {j : Nat} {y : RG} (hx : t[i]? = some x) (hy : t[j]? = some y) (hb : x.2.2.length ≤ 1000000000) (hb2 : y.2.2.length ≤ 1000000000) :
    InvSp Tryz.prog (ifv KS x0 x) "Difference" M [ifv KS x0 y] [Regs KS x0 v t] (fun r _ C' => ∃ D, C' = Regs KS x0 v t :: D ∧ ∃ x' : RG, r = ifv KS x0 x' ∧ x'.2.2 = setDif x.2.2 y.2.2 ∧ D = [SetI KS x0 x']) := by
  refine reg_look2 hx hy (fun M' hM hr hs => ?_) (fun e9 M' hM hr => ?_)
  · cases x0
    · exact lookU (F := [lkI KS false x, lkI KS false y]) (newU (InvSp.of_sp (fun w => meth_116_Difference _ w) Tryz.call193 (spConv (O_Difference hr hs hb hb2) fun r M2 C ⟨b, m, l, h1, h2, h3, h4⟩ => ⟨b, m, l, h1, h2, h3, fun z => (h4 z).trans (by rw [mem_dif])⟩))) fun r M2 C h => h
    · exact newS2 (K := KS) (InvSp.of_sp (fun w => meth_114_Difference _ w) Tryz.call168 (spConv (OS_Difference hr hs hb hb2) fun r M2 C ⟨p, b, m, l, h1, h2, h3, h4⟩ => ⟨p, b, m, l, h1, h2, h3, fun z => (h4 z).trans (by rw [mem_dif])⟩))
  · subst e9
    cases x0
    · exact lookU (F := [lkI KS false y]) (newU (InvSp.of_sp (fun w => meth_116_Difference _ w) Tryz.call193 (spConv (O_Difference hr hr hb hb) fun r M2 C ⟨b, m, l, h1, h2, h3, h4⟩ => ⟨b, m, l, h1, h2, h3, fun z => (h4 z).trans (by rw [mem_dif])⟩))) fun r M2 C h => h
    · exact newS1 (K := KS) (InvSp.of_sp (fun w => meth_114_Difference _ w) Tryz.call168 (spConv (AS_Difference hr hb) fun r M2 C ⟨p, b, m, l, h1, h2, h3, h4⟩ => ⟨p, b, m, l, h1, h2, h3, fun z => (h4 z).trans (by rw [mem_dif])⟩))

set_option maxRecDepth 100000 in
set_option maxHeartbeats 4000000 in
theorem O_SymmetricDifference {M : Hp} {v0 : Value} {c0 : List Int} (h0 : RdSU 145 M v0 c0) {v1 : Value} {c1 : List Int} (h1 : RdSU 145 M v1 c1) (b0 : c0.length ≤ 1000000000) (b1 : c1.length ≤ 1000000000)  :
    Sp Tryz.prog (.func (.func 201) #[] #[]) M [v0, .iface 116 v1] [] (fun r M' C' => ∃ b_ m_ l_, C' = [blk b_ (.cells #[.map (some m_)] 145), OwnS m_ l_] ∧ r = .iface 116 (.pointer (some ⟨b_, 0, none⟩)) ∧ (l_.Nodup) ∧ (∀ z, z ∈ l_ ↔ (z ∈ c0 ∧ z ∉ c1) ∨ (z ∈ c1 ∧ z ∉ c0))) := by
  refine Sp_enter Tryz.func201 rfl Tryz.ntmps201 rfl Tryz.call201 ?_
  intro a w M1 H hM1 S E
  replace h0 := h0.le hM1
  replace h1 := h1.le hM1
  have hcl0 := card_le c0
  have hcl1 := card_le c1
  refine WP_seq ?_
  refine WP_region ?_
  refine S_v E rfl (R_assign E rfl) rfl ?_
  clear E a; intro a E
  refine WL_nil ?_
  refine T_n ?_
  refine WP_seq ?_
  refine WP_region ?_
  refine S_v E rfl (R_move E rfl) rfl ?_
  clear E a; intro a E
  refine S_v E rfl (R_assert E rfl Tryz.underlying116 (by intro z hz; cases hz)) rfl ?_
  clear E a; intro a E
  refine S_v E rfl (R_assign E rfl) rfl ?_
  clear E a; intro a E
  refine WL_nil ?_
  refine T_n ?_
  refine WP_seq ?_
  refine WP_region ?_
  refine S_v E rfl (R_move E rfl) rfl ?_
  clear E a; intro a E
  refine S_x (X_pu E S rfl rfl rfl (U_Cardinality h0 (by first | assumption | omega)) (Hp.le.refl _) ?_)
  clear E a S; rintro a _ w M_1 hM_1 rfl S E
  replace h0 := h0.le hM_1
  replace h1 := h1.le hM_1
  refine S_v E rfl (R_move E rfl) rfl ?_
  clear E a; intro a E
  refine S_x (X_pu E S rfl rfl rfl (U_Cardinality h1 (by first | assumption | omega)) (Hp.le.refl _) ?_)
  clear E a S; rintro a _ w M_2 hM_2 rfl S E
  replace h0 := h0.le hM_2
  replace h1 := h1.le hM_2
  refine S_v E rfl (R_addx (m := ((card c0 + card c1 : Nat) : Int)) E rfl rfl (by omega) (by omega)) rfl ?_
  clear E a; intro a E
  refine S_v E rfl (R_assign E rfl) rfl ?_
  clear E a; intro a E
  refine WL_nil ?_
  refine T_n ?_
  refine WP_seq ?_
  refine WP_region ?_
  refine S_v E rfl (R_move E rfl) rfl ?_
  clear E a; intro a E
  refine S_x (X_makeMapR E S rfl MT145 rfl ?_)
  clear E a S; rintro a w b_3 E S
  replace S : St w M_2 (OwnS b_3 ([] : List Int) :: _) := S
  refine S_x (X_alloc (cs := #[.map none]) E S rfl Tryz.zeroValue145 rfl ?_)
  clear E a S; rintro a w b_4 E S
  refine S_x0 (X_store E S rfl rfl (Tryz.sizeOf145 _) rfl ?_)
  clear E a S; rintro a w E S
  refine WL_nil ?_
  refine T_n ?_
  refine WP_seq ?_
  refine WP_seq ?_
  refine WP_region ?_
  refine S_v E rfl (R_move E rfl) rfl ?_
  clear E a; intro a E
  have hset := h0
  obtain ⟨sb0, sm0, sq0, se0, shb0, shm0, shn0, shq0⟩ := hset
  have shq0l : sq0.length ≤ c0.length := nodup_len shn0 fun z hz => (shq0 z).1 hz
  refine S_v E rfl (R_nilCheck E rfl se0) rfl ?_
  clear E a; intro a E
  refine S_v E rfl (R_loadM E (congrArg some se0) Tryz.isAgg145 S.imm (cellM_box shb0)) rfl ?_
  clear E a; intro a E
  refine S_x (X_range E S rfl MT145 shm0 rfl ?_)
  clear E a S; rintro a w i_5 es_6 ck_7 E hf_8 S
  replace S : St w M_2 (ItO sm0 es_6 ck_7 i_5 (Sl.encS ([] : List Int)) :: _) := S
  refine WL_nil ?_
  refine T_n ?_
  refine WP_block ?_
  replace S := S.front2
  replace S := S.front1
  replace S := S.front1
  replace S := S.reM (L' := (Sl.encS (addsL [] (([]).filter (fun z => decide (z ∉ c1)))))) (congrArg Sl.encS (show ([] : List Int) = (addsL [] (([]).filter (fun z => decide (z ∉ c1)))) by (first | rfl | (simp [addsL_snoc]; done) | (simp [addsL_snoc, List.filter_append, *]; done))))
  replace S := S.front1
  replace S := S.reIt (p' := (Sl.encS [])) (congrArg Sl.encS (show ([] : List Int) = [] by (first | rfl | (simp [addsL_snoc]; done) | (simp [addsL_snoc, List.filter_append, *]; done))))
  refine WP_loop (γ := List Int) (fun (p : List Int) a w => ∃ (M_9 : Hp), Hp.le M_2 M_9 ∧ St w M_9 (ItO sm0 es_6 ck_7 i_5 (Sl.encS p) :: OwnS b_3 (addsL [] ((p).filter (fun z => decide (z ∉ c1)))) :: blk b_4 (.cells #[.map (some b_3)] 145) :: H) ∧ Env a 48 [] [(0, v0), (5, v1), (7, .pointer (some ⟨b_4, 0, none⟩)), (22, .pointer (some ⟨i_5, 0, none⟩))] ∧ (p.Nodup) ∧ (∀ z ∈ p, z ∈ sq0) ∧ (p.length ≤ sq0.length)) (fun p => sq0.length - p.length) [] ⟨M_2, Hp.le.refl _, S, E.keep ⟨rfl, rfl, rfl, rfl, trivial⟩, (by simp), (by simp), (by simp)⟩ ?_
  try clear E
  try clear S
  try clear a
  try clear w
  rintro p a w ⟨M_9, hM_9, S, E, hL0_0, hL0_1, hL0_2⟩
  replace h0 := h0.le hM_9
  replace h1 := h1.le hM_9
  replace shb0 := hM_9.2 _ _ shb0
  replace shm0 := shm0.le hM_9
  replace hf_8 := hf_8.le hM_9
  refine WP_seq ?_
  refine WP_region ?_
  refine S_x (X_nextS E S rfl hf_8 rfl (by assumption) (by assumption) ?_ ?_)
  · clear E a S; rintro a E hpm_10 S
    refine S_v E rfl (R_extract E rfl rfl) rfl ?_
    clear E a; intro a E
    refine WL_nil ?_
    refine T_n ?_
    refine WP_seq ?_
    refine WP_condF E rfl rfl ?_
    refine WP_exit ?_
    refine T_x ?_
    refine T_x ?_
    refine B_x ?_
    refine T_n ?_
    refine WP_seq ?_
    refine WP_seq ?_
    refine WP_region ?_
    refine S_v E rfl (R_move E rfl) rfl ?_
    clear E a; intro a E
    have hset := h1
    obtain ⟨sb1, sm1, sq1, se1, shb1, shm1, shn1, shq1⟩ := hset
    have shq1l : sq1.length ≤ c1.length := nodup_len shn1 fun z hz => (shq1 z).1 hz
    refine S_v E rfl (R_nilCheck E rfl se1) rfl ?_
    clear E a; intro a E
    refine S_v E rfl (R_loadM E (congrArg some se1) Tryz.isAgg145 S.imm (cellM_box shb1)) rfl ?_
    clear E a; intro a E
    refine S_x (X_range E S rfl MT145 shm1 rfl ?_)
    clear E a S; rintro a w i_11 es_12 ck_13 E hf_14 S
    replace S : St w M_9 (ItO sm1 es_12 ck_13 i_11 (Sl.encS ([] : List Int)) :: _) := S
    refine WL_nil ?_
    refine T_n ?_
    refine WP_block ?_
    replace S := S.front2
    replace S := S.front1
    replace S := S.front1
    replace S := S.reM (L' := (Sl.encS (addsL (addsL [] ((p).filter (fun z => decide (z ∉ c1)))) ([].filter (fun z => decide (z ∉ c0)))))) (congrArg Sl.encS (show (addsL [] ((p).filter (fun z => decide (z ∉ c1)))) = (addsL (addsL [] ((p).filter (fun z => decide (z ∉ c1)))) ([].filter (fun z => decide (z ∉ c0)))) by (first | rfl | (simp [addsL_snoc]; done) | (simp [addsL_snoc, List.filter_append, *]; done))))
    replace S := S.front1
    replace S := S.reIt (p' := (Sl.encS [])) (congrArg Sl.encS (show ([] : List Int) = [] by (first | rfl | (simp [addsL_snoc]; done) | (simp [addsL_snoc, List.filter_append, *]; done))))
    refine WP_loop (γ := List Int) (fun (r : List Int) a w => ∃ (M_15 : Hp), Hp.le M_9 M_15 ∧ St w M_15 (ItO sm1 es_12 ck_13 i_11 (Sl.encS r) :: OwnS b_3 (addsL (addsL [] ((p).filter (fun z => decide (z ∉ c1)))) (r.filter (fun z => decide (z ∉ c0)))) :: ItO sm0 es_6 ck_7 i_5 (Sl.encS p) :: blk b_4 (.cells #[.map (some b_3)] 145) :: H) ∧ Env a 48 [] [(0, v0), (7, .pointer (some ⟨b_4, 0, none⟩)), (36, .pointer (some ⟨i_11, 0, none⟩))] ∧ (r.Nodup) ∧ (∀ z ∈ r, z ∈ sq1) ∧ (r.length ≤ sq1.length)) (fun r => sq1.length - r.length) [] ⟨M_9, Hp.le.refl _, S, E.keep ⟨rfl, rfl, rfl, trivial⟩, (by simp), (by simp), (by simp)⟩ ?_
    try clear E
    try clear S
    try clear a
    try clear w
    rintro r a w ⟨M_15, hM_15, S, E, hL1_0, hL1_1, hL1_2⟩
    replace h0 := h0.le hM_15
    replace h1 := h1.le hM_15
    replace shb0 := hM_15.2 _ _ shb0
    replace shm0 := shm0.le hM_15
    replace hf_8 := hf_8.le hM_15
    replace shb1 := hM_15.2 _ _ shb1
    replace shm1 := shm1.le hM_15
    replace hf_14 := hf_14.le hM_15
    refine WP_seq ?_
    refine WP_region ?_
    refine S_x (X_nextS E S rfl hf_14 rfl (by assumption) (by assumption) ?_ ?_)
    · clear E a S; rintro a E hpm_16 S
      refine S_v E rfl (R_extract E rfl rfl) rfl ?_
      clear E a; intro a E
      refine WL_nil ?_
      refine T_n ?_
      refine WP_seq ?_
      refine WP_condF E rfl rfl ?_
      refine WP_exit ?_
      refine T_x ?_
      refine T_x ?_
      refine B_x ?_
      refine T_n ?_
      refine WP_seq ?_
      refine WP_region ?_
      refine S_v E rfl (R_ifaceP E rfl Tryz.underlying116) rfl ?_
      clear E a; intro a E
      refine S_v E rfl (R_assign E rfl) rfl ?_
      clear E a; intro a E
      refine WL_nil ?_
      refine T_n ?_
      refine WP_ret ?_
      replace S := S.drop
      replace S := S.front1
      replace S := S.drop
      replace S := S.front1
      exact F_ret1 E Tryz.results201 rfl ⟨_, rfl, M_15, _, (hM_1.trans (hM_2.trans (hM_9.trans hM_15))), ⟨_, _, _, rfl, rfl, (by (first | assumption | exact addsL_nodup _ _ List.nodup_nil | exact addsL_nodup _ _ (addsL_nodup _ _ List.nodup_nil))), (by (intro z; have ep := (List.Perm.mem_iff (a := z) (show p.Perm sq0 by first | assumption | (exact List.Perm.symm (by assumption)))).trans (shq0 z); have er := (List.Perm.mem_iff (a := z) (show r.Perm sq1 by first | assumption | (exact List.Perm.symm (by assumption)))).trans (shq1 z); simp only [mem_addsL, List.not_mem_nil, false_or, List.mem_append, List.mem_filter, decide_eq_true_eq, List.nil_append]; simp only [ep, er]))⟩, S⟩
    · clear E a S w; rintro a w k_17 E hk_18 hk_18n hk_18l S
      refine S_v E rfl (R_extract E rfl rfl) rfl ?_
      clear E a; intro a E
      refine WL_nil ?_
      refine T_n ?_
      refine WP_seq ?_
      refine WP_condT E rfl rfl ?_
      refine WP_skip ?_
      refine T_n ?_
      refine WP_block ?_
      refine WP_seq ?_
      refine WP_region ?_
      refine S_v E rfl (R_entry (k := k_17) (v := .agg #[]) E (by have S1 := S; simp only [Sl.encS, List.map_append, List.map_cons, List.map_nil] at S1; exact S1) hf_14 rfl) rfl ?_
      clear E a; intro a E
      refine S_v E rfl (R_extract E rfl rfl) rfl ?_
      clear E a; intro a E
      refine S_v E rfl (R_assign E rfl) rfl ?_
      clear E a; intro a E
      refine WL_nil ?_
      refine T_n ?_
      refine WP_seq ?_
      refine WP_region ?_
      refine S_v E rfl (R_move E rfl) rfl ?_
      clear E a; intro a E
      refine S_v E rfl (R_move E rfl) rfl ?_
      clear E a; intro a E
      refine S_x (X_pu E S rfl rfl rfl (U_contains h0 (by first | assumption | omega)) (Hp.le.refl _) ?_)
      clear E a S; rintro a _ w M_19 hM_19 rfl S E
      replace h0 := h0.le hM_19
      replace h1 := h1.le hM_19
      replace shb0 := hM_19.2 _ _ shb0
      replace shm0 := shm0.le hM_19
      replace hf_8 := hf_8.le hM_19
      replace shb1 := hM_19.2 _ _ shb1
      replace shm1 := shm1.le hM_19
      replace hf_14 := hf_14.le hM_19
      refine S_v E rfl (R_not E rfl) rfl ?_
      clear E a; intro a E
      refine WL_nil ?_
      refine T_n ?_
      refine WP_cond E rfl (fun hc_20 => ?_) (fun hc_20 => ?_)
      · refine WP_region ?_
        refine S_v E rfl (R_move E rfl) rfl ?_
        clear E a; intro a E
        replace S := S.front1
        replace S := S.front3
        refine S_x (X_sp (p := [blk b_4 (.cells #[.map (some b_3)] 145), OwnS b_3 (addsL (addsL [] ((p).filter (fun z => decide (z ∉ c1)))) (r.filter (fun z => decide (z ∉ c0))))]) E S rfl rfl rfl (U_add) (Hp.le.refl _) ?_)
        clear E a S; rintro a _ w M_21 _ hM_21 ⟨rfl, rfl⟩ S E
        replace S : St w M_21 (blk b_4 (.cells #[.map (some b_3)] 145) :: OwnS b_3 (addS (addsL (addsL [] ((p).filter (fun z => decide (z ∉ c1)))) (r.filter (fun z => decide (z ∉ c0)))) k_17) :: ItO sm1 es_12 ck_13 i_11 (Sl.encS (r ++ [k_17])) :: ItO sm0 es_6 ck_7 i_5 (Sl.encS p) :: H) := S
        replace h0 := h0.le hM_21
        replace h1 := h1.le hM_21
        replace shb0 := hM_21.2 _ _ shb0
        replace shm0 := shm0.le hM_21
        replace hf_8 := hf_8.le hM_21
        replace shb1 := hM_21.2 _ _ shb1
        replace shm1 := shm1.le hM_21
        replace hf_14 := hf_14.le hM_21
        refine WL_nil ?_
        refine B_n ?_
        refine T_n ?_
        replace S := S.front3
        replace S := S.front2
        replace S := S.front3
        replace S := S.front1
        replace S := S.reM (L' := (Sl.encS (addsL (addsL [] ((p).filter (fun z => decide (z ∉ c1)))) ((r ++ [k_17]).filter (fun z => decide (z ∉ c0)))))) (congrArg Sl.encS (show addS (addsL (addsL [] ((p).filter (fun z => decide (z ∉ c1)))) (r.filter (fun z => decide (z ∉ c0)))) k_17 = (addsL (addsL [] ((p).filter (fun z => decide (z ∉ c1)))) ((r ++ [k_17]).filter (fun z => decide (z ∉ c0)))) by (first | rfl | (simp [addsL_snoc]; done) | (simp [addsL_snoc, List.filter_append, *]; done))))
        replace S := S.front1
        replace S := S.reIt (p' := (Sl.encS (r ++ [k_17]))) (congrArg Sl.encS (show r ++ [k_17] = (r ++ [k_17]) by (first | rfl | (simp [addsL_snoc]; done) | (simp [addsL_snoc, List.filter_append, *]; done))))
        exact ⟨(r ++ [k_17]), ⟨M_21, (hM_15.trans (hM_19.trans hM_21)), S, E.keep ⟨rfl, rfl, rfl, trivial⟩, (by exact snocN (by assumption) (by assumption)), (by exact snocS (by assumption) (by assumption)), (by simp; omega)⟩, (by simp; omega)⟩
      · refine WP_skip ?_
        refine B_n ?_
        refine T_n ?_
        replace S := S.front1
        replace S := S.reM (L' := (Sl.encS (addsL (addsL [] ((p).filter (fun z => decide (z ∉ c1)))) ((r ++ [k_17]).filter (fun z => decide (z ∉ c0)))))) (congrArg Sl.encS (show (addsL (addsL [] ((p).filter (fun z => decide (z ∉ c1)))) (r.filter (fun z => decide (z ∉ c0)))) = (addsL (addsL [] ((p).filter (fun z => decide (z ∉ c1)))) ((r ++ [k_17]).filter (fun z => decide (z ∉ c0)))) by (first | rfl | (simp [addsL_snoc]; done) | (simp [addsL_snoc, List.filter_append, *]; done))))
        replace S := S.front1
        replace S := S.reIt (p' := (Sl.encS (r ++ [k_17]))) (congrArg Sl.encS (show r ++ [k_17] = (r ++ [k_17]) by (first | rfl | (simp [addsL_snoc]; done) | (simp [addsL_snoc, List.filter_append, *]; done))))
        exact ⟨(r ++ [k_17]), ⟨M_19, (hM_15.trans hM_19), S, E.keep ⟨rfl, rfl, rfl, trivial⟩, (by exact snocN (by assumption) (by assumption)), (by exact snocS (by assumption) (by assumption)), (by simp; omega)⟩, (by simp; omega)⟩
  · clear E a S w; rintro a w k_22 E hk_23 hk_23n hk_23l S
    refine S_v E rfl (R_extract E rfl rfl) rfl ?_
    clear E a; intro a E
    refine WL_nil ?_
    refine T_n ?_
    refine WP_seq ?_
    refine WP_condT E rfl rfl ?_
    refine WP_skip ?_
    refine T_n ?_
    refine WP_block ?_
    refine WP_seq ?_
    refine WP_region ?_
    refine S_v E rfl (R_entry (k := k_22) (v := .agg #[]) E (by have S1 := S; simp only [Sl.encS, List.map_append, List.map_cons, List.map_nil] at S1; exact S1) hf_8 rfl) rfl ?_
    clear E a; intro a E
    refine S_v E rfl (R_extract E rfl rfl) rfl ?_
    clear E a; intro a E
    refine S_v E rfl (R_assign E rfl) rfl ?_
    clear E a; intro a E
    refine WL_nil ?_
    refine T_n ?_
    refine WP_seq ?_
    refine WP_region ?_
    refine S_v E rfl (R_move E rfl) rfl ?_
    clear E a; intro a E
    refine S_v E rfl (R_move E rfl) rfl ?_
    clear E a; intro a E
    refine S_x (X_pu E S rfl rfl rfl (U_contains h1 (by first | assumption | omega)) (Hp.le.refl _) ?_)
    clear E a S; rintro a _ w M_24 hM_24 rfl S E
    replace h0 := h0.le hM_24
    replace h1 := h1.le hM_24
    replace shb0 := hM_24.2 _ _ shb0
    replace shm0 := shm0.le hM_24
    replace hf_8 := hf_8.le hM_24
    refine S_v E rfl (R_not E rfl) rfl ?_
    clear E a; intro a E
    refine WL_nil ?_
    refine T_n ?_
    refine WP_cond E rfl (fun hc_25 => ?_) (fun hc_25 => ?_)
    · refine WP_region ?_
      refine S_v E rfl (R_move E rfl) rfl ?_
      clear E a; intro a E
      replace S := S.front1
      replace S := S.front2
      refine S_x (X_sp (p := [blk b_4 (.cells #[.map (some b_3)] 145), OwnS b_3 (addsL [] ((p).filter (fun z => decide (z ∉ c1))))]) E S rfl rfl rfl (U_add) (Hp.le.refl _) ?_)
      clear E a S; rintro a _ w M_26 _ hM_26 ⟨rfl, rfl⟩ S E
      replace S : St w M_26 (blk b_4 (.cells #[.map (some b_3)] 145) :: OwnS b_3 (addS (addsL [] ((p).filter (fun z => decide (z ∉ c1)))) k_22) :: ItO sm0 es_6 ck_7 i_5 (Sl.encS (p ++ [k_22])) :: H) := S
      replace h0 := h0.le hM_26
      replace h1 := h1.le hM_26
      replace shb0 := hM_26.2 _ _ shb0
      replace shm0 := shm0.le hM_26
      replace hf_8 := hf_8.le hM_26
      refine WL_nil ?_
      refine B_n ?_
      refine T_n ?_
      replace S := S.front1
      replace S := S.front2
      replace S := S.front1
      replace S := S.reM (L' := (Sl.encS (addsL [] (((p ++ [k_22])).filter (fun z => decide (z ∉ c1)))))) (congrArg Sl.encS (show addS (addsL [] ((p).filter (fun z => decide (z ∉ c1)))) k_22 = (addsL [] (((p ++ [k_22])).filter (fun z => decide (z ∉ c1)))) by (first | rfl | (simp [addsL_snoc]; done) | (simp [addsL_snoc, List.filter_append, *]; done))))
      replace S := S.front1
      replace S := S.reIt (p' := (Sl.encS (p ++ [k_22]))) (congrArg Sl.encS (show p ++ [k_22] = (p ++ [k_22]) by (first | rfl | (simp [addsL_snoc]; done) | (simp [addsL_snoc, List.filter_append, *]; done))))
      exact ⟨(p ++ [k_22]), ⟨M_26, (hM_9.trans (hM_24.trans hM_26)), S, E.keep ⟨rfl, rfl, rfl, rfl, trivial⟩, (by exact snocN (by assumption) (by assumption)), (by exact snocS (by assumption) (by assumption)), (by simp; omega)⟩, (by simp; omega)⟩
    · refine WP_skip ?_
      refine B_n ?_
      refine T_n ?_
      replace S := S.front1
      replace S := S.reM (L' := (Sl.encS (addsL [] (((p ++ [k_22])).filter (fun z => decide (z ∉ c1)))))) (congrArg Sl.encS (show (addsL [] ((p).filter (fun z => decide (z ∉ c1)))) = (addsL [] (((p ++ [k_22])).filter (fun z => decide (z ∉ c1)))) by (first | rfl | (simp [addsL_snoc]; done) | (simp [addsL_snoc, List.filter_append, *]; done))))
      replace S := S.front1
      replace S := S.reIt (p' := (Sl.encS (p ++ [k_22]))) (congrArg Sl.encS (show p ++ [k_22] = (p ++ [k_22]) by (first | rfl | (simp [addsL_snoc]; done) | (simp [addsL_snoc, List.filter_append, *]; done))))
      exact ⟨(p ++ [k_22]), ⟨M_24, (hM_9.trans hM_24), S, E.keep ⟨rfl, rfl, rfl, rfl, trivial⟩, (by exact snocN (by assumption) (by assumption)), (by exact snocS (by assumption) (by assumption)), (by simp; omega)⟩, (by simp; omega)⟩

set_option maxRecDepth 100000 in
set_option maxHeartbeats 4000000 in
theorem OS_SymmetricDifference {M : Hp} {p0 : Nat} {v0 : Value} {c0 : List Int} (h0 : RdSU 145 M v0 c0) {p1 : Nat} {v1 : Value} {c1 : List Int} (h1 : RdSU 145 M v1 c1) (b0 : c0.length ≤ 1000000000) (b1 : c1.length ≤ 1000000000)  :
    Sp Tryz.prog (.func (.func 181) #[] #[]) M [.pointer (some ⟨p0, 0, none⟩), .iface 114 (.pointer (some ⟨p1, 0, none⟩))] [blk p0 (.cells #[.int .i32 0, .int .u32 0, .int .u32 0, .int .u32 0, .int .i32 0, .int .i32 0, v0] 144), blk p1 (.cells #[.int .i32 0, .int .u32 0, .int .u32 0, .int .u32 0, .int .i32 0, .int .i32 0, v1] 144)] (fun r M' C' => ∃ p_ b_ m_ l_, C' = [blk p0 (.cells #[.int .i32 0, .int .u32 0, .int .u32 0, .int .u32 0, .int .i32 0, .int .i32 0, v0] 144), blk p1 (.cells #[.int .i32 0, .int .u32 0, .int .u32 0, .int .u32 0, .int .i32 0, .int .i32 0, v1] 144), blk p_ (.cells #[.int .i32 0, .int .u32 0, .int .u32 0, .int .u32 0, .int .i32 0, .int .i32 0, .pointer (some ⟨b_, 0, none⟩)] 144), blk b_ (.cells #[.map (some m_)] 145), OwnS m_ l_] ∧ r = .iface 114 (.pointer (some ⟨p_, 0, none⟩)) ∧ (l_.Nodup) ∧ (∀ z, z ∈ l_ ↔ (z ∈ c0 ∧ z ∉ c1) ∨ (z ∈ c1 ∧ z ∉ c0))) := by
  refine Sp_enter Tryz.func181 rfl Tryz.ntmps181 rfl Tryz.call181 ?_
  intro a w M1 H hM1 S E
  replace S : St w M1 (blk p0 (.cells #[.int .i32 0, .int .u32 0, .int .u32 0, .int .u32 0, .int .i32 0, .int .i32 0, v0] 144) :: blk p1 (.cells #[.int .i32 0, .int .u32 0, .int .u32 0, .int .u32 0, .int .i32 0, .int .i32 0, v1] 144) :: _) := S
  replace h0 := h0.le hM1
  replace h1 := h1.le hM1
  have hset := h0
  obtain ⟨sb0, sm0, sq0, se0, shb0, shm0, shn0, shq0⟩ := hset
  have shq0l : sq0.length ≤ c0.length := nodup_len shn0 fun z hz => (shq0 z).1 hz
  have hset := h1
  obtain ⟨sb1, sm1, sq1, se1, shb1, shm1, shn1, shq1⟩ := hset
  have shq1l : sq1.length ≤ c1.length := nodup_len shn1 fun z hz => (shq1 z).1 hz
  refine WP_seq ?_
  refine WP_region ?_
  refine S_v E rfl (R_assign E rfl) rfl ?_
  clear E a; intro a E
  refine WL_nil ?_
  refine T_n ?_
  refine WP_seq ?_
  refine WP_region ?_
  refine S_v E rfl (R_move E rfl) rfl ?_
  clear E a; intro a E
  refine S_v E rfl (R_assert E rfl Tryz.underlying114 (by intro z hz; cases hz)) rfl ?_
  clear E a; intro a E
  refine S_v E rfl (R_assign E rfl) rfl ?_
  clear E a; intro a E
  refine WL_nil ?_
  refine T_n ?_
  refine WP_seq ?_
  refine WP_region ?_
  refine S_v E rfl (R_move E rfl) rfl ?_
  clear E a; intro a E
  refine S_v E rfl (R_nilCheck E rfl rfl) rfl ?_
  clear E a; intro a E
  refine S_v E rfl (R_fieldAddr E rfl (FA144_0 _)) rfl ?_
  clear E a; intro a E
  replace S : St w M1 (LK p0 144 0 v0 :: _) := S
  refine S_x (X_sp (p := [LK p0 144 0 v0]) E S rfl rfl rfl (rlock_sp Tryz.rwRLib (T := 144) (n := 0) (by decide) (by decide)) (Hp.le.refl _) ?_)
  clear E a S; rintro a _ w M_1 _ hM_1 ⟨rfl, rfl⟩ S E
  replace S : St w M_1 (blk p0 (.cells #[.int .i32 0, .int .u32 0, .int .u32 0, .int .u32 0, .int .i32 1, .int .i32 0, v0] 144) :: blk p1 (.cells #[.int .i32 0, .int .u32 0, .int .u32 0, .int .u32 0, .int .i32 0, .int .i32 0, v1] 144) :: H) := S
  replace h0 := h0.le hM_1
  replace h1 := h1.le hM_1
  replace shb0 := hM_1.2 _ _ shb0
  replace shm0 := shm0.le hM_1
  replace shb1 := hM_1.2 _ _ shb1
  replace shm1 := shm1.le hM_1
  refine WL_nil ?_
  refine T_n ?_
  refine WP_seq ?_
  refine WP_region ?_
  refine S_v E rfl (R_move E rfl) rfl ?_
  clear E a; intro a E
  refine S_v E rfl (R_nilCheck E rfl rfl) rfl ?_
  clear E a; intro a E
  refine S_v E rfl (R_fieldAddr E rfl (FA144_0 _)) rfl ?_
  clear E a; intro a E
  replace S := S.front1
  replace S : St w M_1 (LK p1 144 0 v1 :: _) := S
  refine S_x (X_sp (p := [LK p1 144 0 v1]) E S rfl rfl rfl (rlock_sp Tryz.rwRLib (T := 144) (n := 0) (by decide) (by decide)) (Hp.le.refl _) ?_)
  clear E a S; rintro a _ w M_2 _ hM_2 ⟨rfl, rfl⟩ S E
  replace S : St w M_2 (blk p1 (.cells #[.int .i32 0, .int .u32 0, .int .u32 0, .int .u32 0, .int .i32 1, .int .i32 0, v1] 144) :: blk p0 (.cells #[.int .i32 0, .int .u32 0, .int .u32 0, .int .u32 0, .int .i32 1, .int .i32 0, v0] 144) :: H) := S
  replace h0 := h0.le hM_2
  replace h1 := h1.le hM_2
  replace shb0 := hM_2.2 _ _ shb0
  replace shm0 := shm0.le hM_2
  replace shb1 := hM_2.2 _ _ shb1
  replace shm1 := shm1.le hM_2
  refine WL_nil ?_
  refine T_n ?_
  refine WP_seq ?_
  replace S := S.mono_heap (w' := World.drew _) rfl
  refine WP_drawn (C := fun x w => agree M_2 w ∧ (x = 3 → w.heap[p0]? = some (.cells #[.int .i32 0, .int .u32 0, .int .u32 0, .int .u32 0, .int .i32 1, .int .i32 0, v0] 144)) ∧ (x = 7 → w.heap[p1]? = some (.cells #[.int .i32 0, .int .u32 0, .int .u32 0, .int .u32 0, .int .i32 1, .int .i32 0, v1] 144))) (bf := (fun i => bif Nat.beq i 9 then [3, 7] else [])) [0, 1, 2, 3, 4, 5, 6, 7, 8, 10, 11] [0, 1, 2, 3, 4, 5, 6, 7, 8, 9, 10, 11] Tryz.mixed (by kernel_rfl) (fun x hq => ⟨S.imm, fun _ => (S.mem (.tail _ (.head _))), fun _ => (S.mem (.head _))⟩) ?_
  refine D_v E rfl rfl rfl (fun w hC => (R_move E rfl)) ?_
  clear E a; intro a E
  refine D_v E rfl rfl rfl (fun w hC => (R_nilCheck E rfl rfl)) ?_
  clear E a; intro a E
  refine D_v E rfl rfl rfl (fun w hC => (R_fieldAddr E rfl (FA144_1 _))) ?_
  clear E a; intro a E
  refine D_v E rfl rfl rfl (fun w hC => (R_load E rfl (Tryz.isAgg116 _) (cell_blkf (hC.2.1 rfl) rfl))) ?_
  clear E a; intro a E
  refine D_v E rfl rfl rfl (fun w hC => (R_move E rfl)) ?_
  clear E a; intro a E
  refine D_v E rfl rfl rfl (fun w hC => (R_nilCheck E rfl rfl)) ?_
  clear E a; intro a E
  refine D_v E rfl rfl rfl (fun w hC => (R_fieldAddr E rfl (FA144_1 _))) ?_
  clear E a; intro a E
  refine D_v E rfl rfl rfl (fun w hC => (R_load E rfl (Tryz.isAgg116 _) (cell_blkf (hC.2.2 rfl) rfl))) ?_
  clear E a; intro a E
  refine D_v E rfl rfl rfl (fun w hC => (R_ifaceP E rfl Tryz.underlying116)) ?_
  clear E a; intro a E
  refine D_x rfl rfl rfl (X_sp (p := []) E S rfl rfl rfl (O_SymmetricDifference h0 h1 (by first | assumption | omega) (by first | assumption | omega)) (Hp.le.refl _) ?_)
  clear E a S; rintro a _ w M_3 _ hM_3 ⟨b_4, m_5, l_6, rfl, rfl, hx_7, hx_8⟩ S E
  replace S : St w M_3 (blk b_4 (.cells #[.map (some m_5)] 145) :: OwnS m_5 l_6 :: blk p1 (.cells #[.int .i32 0, .int .u32 0, .int .u32 0, .int .u32 0, .int .i32 1, .int .i32 0, v1] 144) :: blk p0 (.cells #[.int .i32 0, .int .u32 0, .int .u32 0, .int .u32 0, .int .i32 1, .int .i32 0, v0] 144) :: H) := S
  replace h0 := h0.le hM_3
  replace h1 := h1.le hM_3
  replace shb0 := hM_3.2 _ _ shb0
  replace shm0 := shm0.le hM_3
  replace shb1 := hM_3.2 _ _ shb1
  replace shm1 := shm1.le hM_3
  refine ⟨fun x hq hb => ⟨(agree_le hM_3 S.imm), (fun e => by subst e; exact absurd hb (by decide)), (fun e => by subst e; exact absurd hb (by decide))⟩, ?_⟩
  refine D_v E rfl rfl rfl (fun w hC => (R_assert E rfl Tryz.underlying116 (by intro z hz; cases hz))) ?_
  clear E a; intro a E
  refine D_v E rfl rfl rfl (fun w hC => (R_assign E rfl)) ?_
  clear E a; intro a E
  refine D_end (NoP_n ?_)
  refine T_n ?_
  refine WP_seq ?_
  refine WP_region ?_
  refine S_v E rfl (R_move E rfl) rfl ?_
  clear E a; intro a E
  refine S_v E rfl (R_build (u := .agg #[.int .i32 0, .int .u32 0, .int .u32 0, .int .u32 0, .int .i32 0, .int .i32 0, .pointer (some ⟨b_4, 0, none⟩)]) (vs := [.pointer (some ⟨b_4, 0, none⟩)]) E rfl (fun w => BLK144 _ w)) rfl ?_
  clear E a; intro a E
  refine S_x (X_box (cs := #[.int .i32 0, .int .u32 0, .int .u32 0, .int .u32 0, .int .i32 0, .int .i32 0, .pointer (some ⟨b_4, 0, none⟩)]) E S rfl rfl rfl ?_)
  clear E a S; rintro a w b_9 E S
  refine S_v E rfl (R_assign E rfl) rfl ?_
  clear E a; intro a E
  refine WL_nil ?_
  refine T_n ?_
  refine WP_seq ?_
  refine WP_region ?_
  refine S_v E rfl (R_move E rfl) rfl ?_
  clear E a; intro a E
  refine S_v E rfl (R_nilCheck E rfl rfl) rfl ?_
  clear E a; intro a E
  refine S_v E rfl (R_fieldAddr E rfl (FA144_0 _)) rfl ?_
  clear E a; intro a E
  replace S := S.front4
  replace S : St w M_3 (LK p0 144 (0 + 1) v0 :: _) := S
  refine S_x (X_sp (p := [LK p0 144 (0 + 1) v0]) E S rfl rfl rfl (runlock_sp Tryz.rwRLib (T := 144) (n := 0) (by decide) (by decide)) (Hp.le.refl _) ?_)
  clear E a S; rintro a _ w M_10 _ hM_10 ⟨rfl, rfl⟩ S E
  replace S : St w M_10 (blk p0 (.cells #[.int .i32 0, .int .u32 0, .int .u32 0, .int .u32 0, .int .i32 0, .int .i32 0, v0] 144) :: blk b_9 (.cells #[.int .i32 0, .int .u32 0, .int .u32 0, .int .u32 0, .int .i32 0, .int .i32 0, .pointer (some ⟨b_4, 0, none⟩)] 144) :: blk b_4 (.cells #[.map (some m_5)] 145) :: OwnS m_5 l_6 :: blk p1 (.cells #[.int .i32 0, .int .u32 0, .int .u32 0, .int .u32 0, .int .i32 1, .int .i32 0, v1] 144) :: H) := S
  replace h0 := h0.le hM_10
  replace h1 := h1.le hM_10
  replace shb0 := hM_10.2 _ _ shb0
  replace shm0 := shm0.le hM_10
  replace shb1 := hM_10.2 _ _ shb1
  replace shm1 := shm1.le hM_10
  refine WL_nil ?_
  refine T_n ?_
  refine WP_seq ?_
  refine WP_region ?_
  refine S_v E rfl (R_move E rfl) rfl ?_
  clear E a; intro a E
  refine S_v E rfl (R_nilCheck E rfl rfl) rfl ?_
  clear E a; intro a E
  refine S_v E rfl (R_fieldAddr E rfl (FA144_0 _)) rfl ?_
  clear E a; intro a E
  replace S := S.front4
  replace S : St w M_10 (LK p1 144 (0 + 1) v1 :: _) := S
  refine S_x (X_sp (p := [LK p1 144 (0 + 1) v1]) E S rfl rfl rfl (runlock_sp Tryz.rwRLib (T := 144) (n := 0) (by decide) (by decide)) (Hp.le.refl _) ?_)
  clear E a S; rintro a _ w M_11 _ hM_11 ⟨rfl, rfl⟩ S E
  replace S : St w M_11 (blk p1 (.cells #[.int .i32 0, .int .u32 0, .int .u32 0, .int .u32 0, .int .i32 0, .int .i32 0, v1] 144) :: blk p0 (.cells #[.int .i32 0, .int .u32 0, .int .u32 0, .int .u32 0, .int .i32 0, .int .i32 0, v0] 144) :: blk b_9 (.cells #[.int .i32 0, .int .u32 0, .int .u32 0, .int .u32 0, .int .i32 0, .int .i32 0, .pointer (some ⟨b_4, 0, none⟩)] 144) :: blk b_4 (.cells #[.map (some m_5)] 145) :: OwnS m_5 l_6 :: H) := S
  replace h0 := h0.le hM_11
  replace h1 := h1.le hM_11
  replace shb0 := hM_11.2 _ _ shb0
  replace shm0 := shm0.le hM_11
  replace shb1 := hM_11.2 _ _ shb1
  replace shm1 := shm1.le hM_11
  refine WL_nil ?_
  refine T_n ?_
  refine WP_seq ?_
  refine WP_region ?_
  refine S_v E rfl (R_move E rfl) rfl ?_
  clear E a; intro a E
  refine S_v E rfl (R_ifaceP E rfl Tryz.underlying114) rfl ?_
  clear E a; intro a E
  refine S_v E rfl (R_assign E rfl) rfl ?_
  clear E a; intro a E
  refine WL_nil ?_
  refine T_n ?_
  refine WP_ret ?_
  replace S := S.front4
  replace S := S.front4
  replace S := S.front4
  replace S := S.front3
  replace S := S.front4
  exact F_ret1 E Tryz.results181 rfl ⟨_, rfl, M_11, _, (hM_1.trans (hM_2.trans (hM_3.trans (hM_10.trans hM_11)))), ⟨_, _, _, _, rfl, rfl, (by assumption), (by assumption)⟩, S⟩

set_option maxRecDepth 100000 in
set_option maxHeartbeats 4000000 in
theorem AS_SymmetricDifference {M : Hp} {p0 : Nat} {v0 : Value} {c0 : List Int} (h0 : RdSU 145 M v0 c0) (b0 : c0.length ≤ 1000000000)  :
    Sp Tryz.prog (.func (.func 181) #[] #[]) M [.pointer (some ⟨p0, 0, none⟩), .iface 114 (.pointer (some ⟨p0, 0, none⟩))] [blk p0 (.cells #[.int .i32 0, .int .u32 0, .int .u32 0, .int .u32 0, .int .i32 0, .int .i32 0, v0] 144)] (fun r M' C' => ∃ p_ b_ m_ l_, C' = [blk p0 (.cells #[.int .i32 0, .int .u32 0, .int .u32 0, .int .u32 0, .int .i32 0, .int .i32 0, v0] 144), blk p_ (.cells #[.int .i32 0, .int .u32 0, .int .u32 0, .int .u32 0, .int .i32 0, .int .i32 0, .pointer (some ⟨b_, 0, none⟩)] 144), blk b_ (.cells #[.map (some m_)] 145), OwnS m_ l_] ∧ r = .iface 114 (.pointer (some ⟨p_, 0, none⟩)) ∧ (l_.Nodup) ∧ (∀ z, z ∈ l_ ↔ (z ∈ c0 ∧ z ∉ c0) ∨ (z ∈ c0 ∧ z ∉ c0))) := by
  refine Sp_enter Tryz.func181 rfl Tryz.ntmps181 rfl Tryz.call181 ?_
  intro a w M1 H hM1 S E
  replace S : St w M1 (blk p0 (.cells #[.int .i32 0, .int .u32 0, .int .u32 0, .int .u32 0, .int .i32 0, .int .i32 0, v0] 144) :: _) := S
  replace h0 := h0.le hM1
  have hset := h0
  obtain ⟨sb0, sm0, sq0, se0, shb0, shm0, shn0, shq0⟩ := hset
  have shq0l : sq0.length ≤ c0.length := nodup_len shn0 fun z hz => (shq0 z).1 hz
  refine WP_seq ?_
  refine WP_region ?_
  refine S_v E rfl (R_assign E rfl) rfl ?_
  clear E a; intro a E
  refine WL_nil ?_
  refine T_n ?_
  refine WP_seq ?_
  refine WP_region ?_
  refine S_v E rfl (R_move E rfl) rfl ?_
  clear E a; intro a E
  refine S_v E rfl (R_assert E rfl Tryz.underlying114 (by intro z hz; cases hz)) rfl ?_
  clear E a; intro a E
  refine S_v E rfl (R_assign E rfl) rfl ?_
  clear E a; intro a E
  refine WL_nil ?_
  refine T_n ?_
  refine WP_seq ?_
  refine WP_region ?_
  refine S_v E rfl (R_move E rfl) rfl ?_
  clear E a; intro a E
  refine S_v E rfl (R_nilCheck E rfl rfl) rfl ?_
  clear E a; intro a E
  refine S_v E rfl (R_fieldAddr E rfl (FA144_0 _)) rfl ?_
  clear E a; intro a E
  replace S : St w M1 (LK p0 144 0 v0 :: _) := S
  refine S_x (X_sp (p := [LK p0 144 0 v0]) E S rfl rfl rfl (rlock_sp Tryz.rwRLib (T := 144) (n := 0) (by decide) (by decide)) (Hp.le.refl _) ?_)
  clear E a S; rintro a _ w M_1 _ hM_1 ⟨rfl, rfl⟩ S E
  replace S : St w M_1 (blk p0 (.cells #[.int .i32 0, .int .u32 0, .int .u32 0, .int .u32 0, .int .i32 1, .int .i32 0, v0] 144) :: H) := S
  replace h0 := h0.le hM_1
  replace shb0 := hM_1.2 _ _ shb0
  replace shm0 := shm0.le hM_1
  refine WL_nil ?_
  refine T_n ?_
  refine WP_seq ?_
  refine WP_region ?_
  refine S_v E rfl (R_move E rfl) rfl ?_
  clear E a; intro a E
  refine S_v E rfl (R_nilCheck E rfl rfl) rfl ?_
  clear E a; intro a E
  refine S_v E rfl (R_fieldAddr E rfl (FA144_0 _)) rfl ?_
  clear E a; intro a E
  replace S : St w M_1 (LK p0 144 1 v0 :: _) := S
  refine S_x (X_sp (p := [LK p0 144 1 v0]) E S rfl rfl rfl (rlock_sp Tryz.rwRLib (T := 144) (n := 1) (by decide) (by decide)) (Hp.le.refl _) ?_)
  clear E a S; rintro a _ w M_2 _ hM_2 ⟨rfl, rfl⟩ S E
  replace S : St w M_2 (blk p0 (.cells #[.int .i32 0, .int .u32 0, .int .u32 0, .int .u32 0, .int .i32 2, .int .i32 0, v0] 144) :: H) := S
  replace h0 := h0.le hM_2
  replace shb0 := hM_2.2 _ _ shb0
  replace shm0 := shm0.le hM_2
  refine WL_nil ?_
  refine T_n ?_
  refine WP_seq ?_
  replace S := S.mono_heap (w' := World.drew _) rfl
  refine WP_drawn (C := fun x w => agree M_2 w ∧ (x = 3 → w.heap[p0]? = some (.cells #[.int .i32 0, .int .u32 0, .int .u32 0, .int .u32 0, .int .i32 2, .int .i32 0, v0] 144)) ∧ (x = 7 → w.heap[p0]? = some (.cells #[.int .i32 0, .int .u32 0, .int .u32 0, .int .u32 0, .int .i32 2, .int .i32 0, v0] 144))) (bf := (fun i => bif Nat.beq i 9 then [3, 7] else [])) [0, 1, 2, 3, 4, 5, 6, 7, 8, 10, 11] [0, 1, 2, 3, 4, 5, 6, 7, 8, 9, 10, 11] Tryz.mixed (by kernel_rfl) (fun x hq => ⟨S.imm, fun _ => (S.mem (.head _)), fun _ => (S.mem (.head _))⟩) ?_
  refine D_v E rfl rfl rfl (fun w hC => (R_move E rfl)) ?_
  clear E a; intro a E
  refine D_v E rfl rfl rfl (fun w hC => (R_nilCheck E rfl rfl)) ?_
  clear E a; intro a E
  refine D_v E rfl rfl rfl (fun w hC => (R_fieldAddr E rfl (FA144_1 _))) ?_
  clear E a; intro a E
  refine D_v E rfl rfl rfl (fun w hC => (R_load E rfl (Tryz.isAgg116 _) (cell_blkf (hC.2.1 rfl) rfl))) ?_
  clear E a; intro a E
  refine D_v E rfl rfl rfl (fun w hC => (R_move E rfl)) ?_
  clear E a; intro a E
  refine D_v E rfl rfl rfl (fun w hC => (R_nilCheck E rfl rfl)) ?_
  clear E a; intro a E
  refine D_v E rfl rfl rfl (fun w hC => (R_fieldAddr E rfl (FA144_1 _))) ?_
  clear E a; intro a E
  refine D_v E rfl rfl rfl (fun w hC => (R_load E rfl (Tryz.isAgg116 _) (cell_blkf (hC.2.2 rfl) rfl))) ?_
  clear E a; intro a E
  refine D_v E rfl rfl rfl (fun w hC => (R_ifaceP E rfl Tryz.underlying116)) ?_
  clear E a; intro a E
  refine D_x rfl rfl rfl (X_sp (p := []) E S rfl rfl rfl (O_SymmetricDifference h0 h0 (by first | assumption | omega) (by first | assumption | omega)) (Hp.le.refl _) ?_)
  clear E a S; rintro a _ w M_3 _ hM_3 ⟨b_4, m_5, l_6, rfl, rfl, hx_7, hx_8⟩ S E
  replace S : St w M_3 (blk b_4 (.cells #[.map (some m_5)] 145) :: OwnS m_5 l_6 :: blk p0 (.cells #[.int .i32 0, .int .u32 0, .int .u32 0, .int .u32 0, .int .i32 2, .int .i32 0, v0] 144) :: H) := S
  replace h0 := h0.le hM_3
  replace shb0 := hM_3.2 _ _ shb0
  replace shm0 := shm0.le hM_3
  refine ⟨fun x hq hb => ⟨(agree_le hM_3 S.imm), (fun e => by subst e; exact absurd hb (by decide)), (fun e => by subst e; exact absurd hb (by decide))⟩, ?_⟩
  refine D_v E rfl rfl rfl (fun w hC => (R_assert E rfl Tryz.underlying116 (by intro z hz; cases hz))) ?_
  clear E a; intro a E
  refine D_v E rfl rfl rfl (fun w hC => (R_assign E rfl)) ?_
  clear E a; intro a E
  refine D_end (NoP_n ?_)
  refine T_n ?_
  refine WP_seq ?_
  refine WP_region ?_
  refine S_v E rfl (R_move E rfl) rfl ?_
  clear E a; intro a E
  refine S_v E rfl (R_build (u := .agg #[.int .i32 0, .int .u32 0, .int .u32 0, .int .u32 0, .int .i32 0, .int .i32 0, .pointer (some ⟨b_4, 0, none⟩)]) (vs := [.pointer (some ⟨b_4, 0, none⟩)]) E rfl (fun w => BLK144 _ w)) rfl ?_
  clear E a; intro a E
  refine S_x (X_box (cs := #[.int .i32 0, .int .u32 0, .int .u32 0, .int .u32 0, .int .i32 0, .int .i32 0, .pointer (some ⟨b_4, 0, none⟩)]) E S rfl rfl rfl ?_)
  clear E a S; rintro a w b_9 E S
  refine S_v E rfl (R_assign E rfl) rfl ?_
  clear E a; intro a E
  refine WL_nil ?_
  refine T_n ?_
  refine WP_seq ?_
  refine WP_region ?_
  refine S_v E rfl (R_move E rfl) rfl ?_
  clear E a; intro a E
  refine S_v E rfl (R_nilCheck E rfl rfl) rfl ?_
  clear E a; intro a E
  refine S_v E rfl (R_fieldAddr E rfl (FA144_0 _)) rfl ?_
  clear E a; intro a E
  replace S := S.front3
  replace S : St w M_3 (LK p0 144 (1 + 1) v0 :: _) := S
  refine S_x (X_sp (p := [LK p0 144 (1 + 1) v0]) E S rfl rfl rfl (runlock_sp Tryz.rwRLib (T := 144) (n := 1) (by decide) (by decide)) (Hp.le.refl _) ?_)
  clear E a S; rintro a _ w M_10 _ hM_10 ⟨rfl, rfl⟩ S E
  replace S : St w M_10 (blk p0 (.cells #[.int .i32 0, .int .u32 0, .int .u32 0, .int .u32 0, .int .i32 1, .int .i32 0, v0] 144) :: blk b_9 (.cells #[.int .i32 0, .int .u32 0, .int .u32 0, .int .u32 0, .int .i32 0, .int .i32 0, .pointer (some ⟨b_4, 0, none⟩)] 144) :: blk b_4 (.cells #[.map (some m_5)] 145) :: OwnS m_5 l_6 :: H) := S
  replace h0 := h0.le hM_10
  replace shb0 := hM_10.2 _ _ shb0
  replace shm0 := shm0.le hM_10
  refine WL_nil ?_
  refine T_n ?_
  refine WP_seq ?_
  refine WP_region ?_
  refine S_v E rfl (R_move E rfl) rfl ?_
  clear E a; intro a E
  refine S_v E rfl (R_nilCheck E rfl rfl) rfl ?_
  clear E a; intro a E
  refine S_v E rfl (R_fieldAddr E rfl (FA144_0 _)) rfl ?_
  clear E a; intro a E
  replace S : St w M_10 (LK p0 144 (0 + 1) v0 :: _) := S
  refine S_x (X_sp (p := [LK p0 144 (0 + 1) v0]) E S rfl rfl rfl (runlock_sp Tryz.rwRLib (T := 144) (n := 0) (by decide) (by decide)) (Hp.le.refl _) ?_)
  clear E a S; rintro a _ w M_11 _ hM_11 ⟨rfl, rfl⟩ S E
  replace S : St w M_11 (blk p0 (.cells #[.int .i32 0, .int .u32 0, .int .u32 0, .int .u32 0, .int .i32 0, .int .i32 0, v0] 144) :: blk b_9 (.cells #[.int .i32 0, .int .u32 0, .int .u32 0, .int .u32 0, .int .i32 0, .int .i32 0, .pointer (some ⟨b_4, 0, none⟩)] 144) :: blk b_4 (.cells #[.map (some m_5)] 145) :: OwnS m_5 l_6 :: H) := S
  replace h0 := h0.le hM_11
  replace shb0 := hM_11.2 _ _ shb0
  replace shm0 := shm0.le hM_11
  refine WL_nil ?_
  refine T_n ?_
  refine WP_seq ?_
  refine WP_region ?_
  refine S_v E rfl (R_move E rfl) rfl ?_
  clear E a; intro a E
  refine S_v E rfl (R_ifaceP E rfl Tryz.underlying114) rfl ?_
  clear E a; intro a E
  refine S_v E rfl (R_assign E rfl) rfl ?_
  clear E a; intro a E
  refine WL_nil ?_
  refine T_n ?_
  refine WP_ret ?_
  replace S := S.front3
  replace S := S.front3
  replace S := S.front3
  replace S := S.front3
  exact F_ret1 E Tryz.results181 rfl ⟨_, rfl, M_11, _, (hM_1.trans (hM_2.trans (hM_3.trans (hM_10.trans hM_11)))), ⟨_, _, _, _, rfl, rfl, (by assumption), (by assumption)⟩, S⟩

set_option maxRecDepth 100000 in
set_option maxHeartbeats 4000000 in
theorem reg_SymmetricDifference {M : Hp} {x0 : Bool} {v : Value} {t : List RG} {i : Nat} {x : RG} {j : Nat} {y : RG} (hx : t[i]? = some x) (hy : t[j]? = some y) (hb : x.2.2.length ≤ 1000000000) (hb2 : y.2.2.length ≤ 1000000000) :
    InvSp Tryz.prog (ifv KS x0 x) "SymmetricDifference" M [ifv KS x0 y] [Regs KS x0 v t] (fun r _ C' => ∃ D, C' = Regs KS x0 v t :: D ∧ ∃ x' : RG, r = ifv KS x0 x' ∧ x'.2.2 = setSym x.2.2 y.2.2 ∧ D = [SetI KS x0 x']) := by
  refine reg_look2 hx hy (fun M' hM hr hs => ?_) (fun e9 M' hM hr => ?_)
  · cases x0
    · exact lookU (F := [lkI KS false x, lkI KS false y]) (newU (InvSp.of_sp (fun w => meth_116_SymmetricDifference _ w) Tryz.call201 (spConv (O_SymmetricDifference hr hs hb hb2) fun r M2 C ⟨b, m, l, h1, h2, h3, h4⟩ => ⟨b, m, l, h1, h2, h3, fun z => (h4 z).trans (by rw [mem_sym])⟩))) fun r M2 C h => h
    · exact newS2 (K := KS) (InvSp.of_sp (fun w => meth_114_SymmetricDifference _ w) Tryz.call181 (spConv (OS_SymmetricDifference hr hs hb hb2) fun r M2 C ⟨p, b, m, l, h1, h2, h3, h4⟩ => ⟨p, b, m, l, h1, h2, h3, fun z => (h4 z).trans (by rw [mem_sym])⟩))
  · subst e9
    cases x0
    · exact lookU (F := [lkI KS false y]) (newU (InvSp.of_sp (fun w => meth_116_SymmetricDifference _ w) Tryz.call201 (spConv (O_SymmetricDifference hr hr hb hb) fun r M2 C ⟨b, m, l, h1, h2, h3, h4⟩ => ⟨b, m, l, h1, h2, h3, fun z => (h4 z).trans (by rw [mem_sym])⟩))) fun r M2 C h => h
    · exact newS1 (K := KS) (InvSp.of_sp (fun w => meth_114_SymmetricDifference _ w) Tryz.call181 (spConv (AS_SymmetricDifference hr hb) fun r M2 C ⟨p, b, m, l, h1, h2, h3, h4⟩ => ⟨p, b, m, l, h1, h2, h3, fun z => (h4 z).trans (by rw [mem_sym])⟩))

set_option maxRecDepth 100000 in
set_option maxHeartbeats 4000000 in
theorem U_Equal {M : Hp} {v0 : Value} {c0 : List Int} (h0 : RdSU 145 M v0 c0) {v1 : Value} {c1 : List Int} (h1 : RdSU 145 M v1 c1) (b0 : c0.length ≤ 1000000000) (b1 : c1.length ≤ 1000000000)  :
    Pu Tryz.prog (.func (.func 194) #[] #[]) M [v0, .iface 116 v1] (fun r M' => r = .bool (sub' c0 c1 && sub' c1 c0)) := by
  refine Pu_enter Tryz.func194 rfl Tryz.ntmps194 rfl Tryz.call194 ?_
  intro a w M1 H hM1 S E
  replace h0 := h0.le hM1
  replace h1 := h1.le hM1
  have hcl0 := card_le c0
  have hcl1 := card_le c1
  refine WP_seq ?_
  refine WP_region ?_
  refine S_v E rfl (R_assign E rfl) rfl ?_
  clear E a; intro a E
  refine WL_nil ?_
  refine T_n ?_
  refine WP_seq ?_
  refine WP_region ?_
  refine S_v E rfl (R_move E rfl) rfl ?_
  clear E a; intro a E
  refine S_v E rfl (R_assert E rfl Tryz.underlying116 (by intro z hz; cases hz)) rfl ?_
  clear E a; intro a E
  refine S_v E rfl (R_assign E rfl) rfl ?_
  clear E a; intro a E
  refine WL_nil ?_
  refine T_n ?_
  refine WP_seq ?_
  refine WP_seq ?_
  refine WP_region ?_
  refine S_v E rfl (R_move E rfl) rfl ?_
  clear E a; intro a E
  refine S_x (X_pu E S rfl rfl rfl (U_Cardinality h0 (by first | assumption | omega)) (Hp.le.refl _) ?_)
  clear E a S; rintro a _ w M_1 hM_1 rfl S E
  replace h0 := h0.le hM_1
  replace h1 := h1.le hM_1
  refine S_v E rfl (R_move E rfl) rfl ?_
  clear E a; intro a E
  refine S_x (X_puI E S rfl rfl rfl (meth_116_Cardinality _ _) Tryz.call205 (U_Cardinality h1 (by first | assumption | omega)) (Hp.le.refl _) ?_)
  clear E a S; rintro a _ w M_2 hM_2 rfl S E
  replace h0 := h0.le hM_2
  replace h1 := h1.le hM_2
  refine S_v E rfl (R_neq E rfl rfl) rfl ?_
  clear E a; intro a E
  refine WL_nil ?_
  refine T_n ?_
  refine WP_cond E rfl (fun hc_3 => ?_) (fun hc_3 => ?_)
  · replace hc_3 := of_decide_eq_true hc_3
    refine WP_seq ?_
    refine WP_region ?_
    refine S_v E rfl (R_assign E rfl) rfl ?_
    clear E a; intro a E
    refine WL_nil ?_
    refine T_n ?_
    refine WP_ret ?_
    refine T_r ?_
    exact F_ret1 E Tryz.results194 rfl ⟨_, rfl, M_2, (hM_1.trans hM_2), (congrArg Value.bool (by (first | (have h9 := sub_t (by first | assumption | exact List.Perm.symm (by assumption)) shq0 (show ∀ z ∈ p, z ∈ c1 by assumption); rw [h9, sub_back h9 (by omega)]; rfl) | (rw [show sub' c0 c1 = false from (sub_f (k := _) (by assumption) shq0 (by simp_all))]; rfl) | (rcases Nat.lt_or_gt_of_ne (show card c0 ≠ card c1 by omega) with h9 | h9; (rw [sub_card h9, Bool.and_false]); (rw [sub_card h9]; rfl))))), S⟩
  · replace hc_3 := of_decide_eq_false hc_3
    refine WP_skip ?_
    refine T_n ?_
    refine WP_seq ?_
    refine WP_seq ?_
    refine WP_region ?_
    refine S_v E rfl (R_move E rfl) rfl ?_
    clear E a; intro a E
    have hset := h0
    obtain ⟨sb0, sm0, sq0, se0, shb0, shm0, shn0, shq0⟩ := hset
    have shq0l : sq0.length ≤ c0.length := nodup_len shn0 fun z hz => (shq0 z).1 hz
    refine S_v E rfl (R_nilCheck E rfl se0) rfl ?_
    clear E a; intro a E
    refine S_v E rfl (R_loadM E (congrArg some se0) Tryz.isAgg145 S.imm (cellM_box shb0)) rfl ?_
    clear E a; intro a E
    refine S_x (X_range E S rfl MT145 shm0 rfl ?_)
    clear E a S; rintro a w i_4 es_5 ck_6 E hf_7 S
    replace S : St w M_2 (ItO sm0 es_5 ck_6 i_4 (Sl.encS ([] : List Int)) :: _) := S
    refine WL_nil ?_
    refine T_n ?_
    refine WP_block ?_
    replace S := S.reIt (p' := (Sl.encS [])) (congrArg Sl.encS (show ([] : List Int) = [] by (first | rfl | (simp [addsL_snoc]; done) | (simp [addsL_snoc, List.filter_append, *]; done))))
    refine WP_loop (γ := List Int) (fun (p : List Int) a w => ∃ (M_8 : Hp), Hp.le M_2 M_8 ∧ St w M_8 (ItO sm0 es_5 ck_6 i_4 (Sl.encS p) :: H) ∧ Env a 26 [] [(5, v1), (17, .pointer (some ⟨i_4, 0, none⟩))] ∧ (p.Nodup) ∧ (∀ z ∈ p, z ∈ sq0) ∧ (p.length ≤ sq0.length) ∧ (∀ z ∈ p, z ∈ c1)) (fun p => sq0.length - p.length) [] ⟨M_2, Hp.le.refl _, S, E.keep ⟨rfl, rfl, trivial⟩, (by simp), (by simp), (by simp), (by simp)⟩ ?_
    try clear E
    try clear S
    try clear a
    try clear w
    rintro p a w ⟨M_8, hM_8, S, E, hL0_0, hL0_1, hL0_2, hL0_3⟩
    replace h0 := h0.le hM_8
    replace h1 := h1.le hM_8
    replace shb0 := hM_8.2 _ _ shb0
    replace shm0 := shm0.le hM_8
    replace hf_7 := hf_7.le hM_8
    refine WP_seq ?_
    refine WP_region ?_
    refine S_x (X_nextS E S rfl hf_7 rfl (by assumption) (by assumption) ?_ ?_)
    · clear E a S; rintro a E hpm_9 S
      refine S_v E rfl (R_extract E rfl rfl) rfl ?_
      clear E a; intro a E
      refine WL_nil ?_
      refine T_n ?_
      refine WP_seq ?_
      refine WP_condF E rfl rfl ?_
      refine WP_exit ?_
      refine T_x ?_
      refine T_x ?_
      refine B_x ?_
      refine T_n ?_
      refine WP_seq ?_
      refine WP_region ?_
      refine S_v E rfl (R_assign E rfl) rfl ?_
      clear E a; intro a E
      refine WL_nil ?_
      refine T_n ?_
      refine WP_ret ?_
      exact F_ret1 E Tryz.results194 rfl ⟨_, rfl, M_8, (hM_1.trans (hM_2.trans hM_8)), (congrArg Value.bool (by (first | (have h9 := sub_t (by first | assumption | exact List.Perm.symm (by assumption)) shq0 (show ∀ z ∈ p, z ∈ c1 by assumption); rw [h9, sub_back h9 (by omega)]; rfl) | (rw [show sub' c0 c1 = false from (sub_f (k := _) (by assumption) shq0 (by simp_all))]; rfl) | (rcases Nat.lt_or_gt_of_ne (show card c0 ≠ card c1 by omega) with h9 | h9; (rw [sub_card h9, Bool.and_false]); (rw [sub_card h9]; rfl))))), S.drop⟩
    · clear E a S w; rintro a w k_10 E hk_11 hk_11n hk_11l S
      refine S_v E rfl (R_extract E rfl rfl) rfl ?_
      clear E a; intro a E
      refine WL_nil ?_
      refine T_n ?_
      refine WP_seq ?_
      refine WP_condT E rfl rfl ?_
      refine WP_skip ?_
      refine T_n ?_
      refine WP_block ?_
      refine WP_seq ?_
      refine WP_region ?_
      refine S_v E rfl (R_entry (k := k_10) (v := .agg #[]) E (by have S1 := S; simp only [Sl.encS, List.map_append, List.map_cons, List.map_nil] at S1; exact S1) hf_7 rfl) rfl ?_
      clear E a; intro a E
      refine S_v E rfl (R_extract E rfl rfl) rfl ?_
      clear E a; intro a E
      refine S_v E rfl (R_assign E rfl) rfl ?_
      clear E a; intro a E
      refine WL_nil ?_
      refine T_n ?_
      refine WP_seq ?_
      refine WP_region ?_
      refine S_v E rfl (R_move E rfl) rfl ?_
      clear E a; intro a E
      refine S_v E rfl (R_move E rfl) rfl ?_
      clear E a; intro a E
      refine S_x (X_pu E S rfl rfl rfl (U_contains h1 (by first | assumption | omega)) (Hp.le.refl _) ?_)
      clear E a S; rintro a _ w M_12 hM_12 rfl S E
      replace h0 := h0.le hM_12
      replace h1 := h1.le hM_12
      replace shb0 := hM_12.2 _ _ shb0
      replace shm0 := shm0.le hM_12
      replace hf_7 := hf_7.le hM_12
      refine S_v E rfl (R_not E rfl) rfl ?_
      clear E a; intro a E
      refine WL_nil ?_
      refine T_n ?_
      refine WP_cond E rfl (fun hc_13 => ?_) (fun hc_13 => ?_)
      · refine WP_seq ?_
        refine WP_region ?_
        refine S_v E rfl (R_assign E rfl) rfl ?_
        clear E a; intro a E
        refine WL_nil ?_
        refine T_n ?_
        refine WP_ret ?_
        refine B_r ?_
        refine T_r ?_
        refine B_r ?_
        refine T_r ?_
        exact F_ret1 E Tryz.results194 rfl ⟨_, rfl, M_12, (hM_1.trans (hM_2.trans (hM_8.trans hM_12))), (congrArg Value.bool (by (first | (have h9 := sub_t (by first | assumption | exact List.Perm.symm (by assumption)) shq0 (show ∀ z ∈ p, z ∈ c1 by assumption); rw [h9, sub_back h9 (by omega)]; rfl) | (rw [show sub' c0 c1 = false from (sub_f (k := _) (by assumption) shq0 (by simp_all))]; rfl) | (rcases Nat.lt_or_gt_of_ne (show card c0 ≠ card c1 by omega) with h9 | h9; (rw [sub_card h9, Bool.and_false]); (rw [sub_card h9]; rfl))))), S.drop⟩
      · refine WP_skip ?_
        refine B_n ?_
        refine T_n ?_
        replace S := S.reIt (p' := (Sl.encS (p ++ [k_10]))) (congrArg Sl.encS (show p ++ [k_10] = (p ++ [k_10]) by (first | rfl | (simp [addsL_snoc]; done) | (simp [addsL_snoc, List.filter_append, *]; done))))
        exact ⟨(p ++ [k_10]), ⟨M_12, (hM_8.trans hM_12), S, E.keep ⟨rfl, rfl, trivial⟩, (by exact snocN (by assumption) (by assumption)), (by exact snocS (by assumption) (by assumption)), (by simp; omega), (by exact snocP (Q := fun z => z ∈ c1) (by assumption) (by first | assumption | (simp_all; done)))⟩, (by simp; omega)⟩

set_option maxRecDepth 100000 in
set_option maxHeartbeats 4000000 in
theorem S_Equal {M : Hp} {p0 : Nat} {v0 : Value} {c0 : List Int} (h0 : RdSU 145 M v0 c0) {p1 : Nat} {v1 : Value} {c1 : List Int} (h1 : RdSU 145 M v1 c1) (b0 : c0.length ≤ 1000000000) (b1 : c1.length ≤ 1000000000)  :
    Sp Tryz.prog (.func (.func 170) #[] #[]) M [.pointer (some ⟨p0, 0, none⟩), .iface 114 (.pointer (some ⟨p1, 0, none⟩))] [blk p0 (.cells #[.int .i32 0, .int .u32 0, .int .u32 0, .int .u32 0, .int .i32 0, .int .i32 0, v0] 144), blk p1 (.cells #[.int .i32 0, .int .u32 0, .int .u32 0, .int .u32 0, .int .i32 0, .int .i32 0, v1] 144)] (fun r M' C' => C' = [blk p0 (.cells #[.int .i32 0, .int .u32 0, .int .u32 0, .int .u32 0, .int .i32 0, .int .i32 0, v0] 144), blk p1 (.cells #[.int .i32 0, .int .u32 0, .int .u32 0, .int .u32 0, .int .i32 0, .int .i32 0, v1] 144)] ∧ (r = .bool (sub' c0 c1 && sub' c1 c0))) := by
  refine Sp_enter Tryz.func170 rfl Tryz.ntmps170 rfl Tryz.call170 ?_
  intro a w M1 H hM1 S E
  replace S : St w M1 (blk p0 (.cells #[.int .i32 0, .int .u32 0, .int .u32 0, .int .u32 0, .int .i32 0, .int .i32 0, v0] 144) :: blk p1 (.cells #[.int .i32 0, .int .u32 0, .int .u32 0, .int .u32 0, .int .i32 0, .int .i32 0, v1] 144) :: _) := S
  replace h0 := h0.le hM1
  replace h1 := h1.le hM1
  have hset := h0
  obtain ⟨sb0, sm0, sq0, se0, shb0, shm0, shn0, shq0⟩ := hset
  have shq0l : sq0.length ≤ c0.length := nodup_len shn0 fun z hz => (shq0 z).1 hz
  have hset := h1
  obtain ⟨sb1, sm1, sq1, se1, shb1, shm1, shn1, shq1⟩ := hset
  have shq1l : sq1.length ≤ c1.length := nodup_len shn1 fun z hz => (shq1 z).1 hz
  refine WP_seq ?_
  refine WP_region ?_
  refine S_v E rfl (R_assign E rfl) rfl ?_
  clear E a; intro a E
  refine WL_nil ?_
  refine T_n ?_
  refine WP_seq ?_
  refine WP_region ?_
  refine S_v E rfl (R_move E rfl) rfl ?_
  clear E a; intro a E
  refine S_v E rfl (R_assert E rfl Tryz.underlying114 (by intro z hz; cases hz)) rfl ?_
  clear E a; intro a E
  refine S_v E rfl (R_assign E rfl) rfl ?_
  clear E a; intro a E
  refine WL_nil ?_
  refine T_n ?_
  refine WP_seq ?_
  refine WP_region ?_
  refine S_v E rfl (R_move E rfl) rfl ?_
  clear E a; intro a E
  refine S_v E rfl (R_nilCheck E rfl rfl) rfl ?_
  clear E a; intro a E
  refine S_v E rfl (R_fieldAddr E rfl (FA144_0 _)) rfl ?_
  clear E a; intro a E
  replace S : St w M1 (LK p0 144 0 v0 :: _) := S
  refine S_x (X_sp (p := [LK p0 144 0 v0]) E S rfl rfl rfl (rlock_sp Tryz.rwRLib (T := 144) (n := 0) (by decide) (by decide)) (Hp.le.refl _) ?_)
  clear E a S; rintro a _ w M_1 _ hM_1 ⟨rfl, rfl⟩ S E
  replace S : St w M_1 (blk p0 (.cells #[.int .i32 0, .int .u32 0, .int .u32 0, .int .u32 0, .int .i32 1, .int .i32 0, v0] 144) :: blk p1 (.cells #[.int .i32 0, .int .u32 0, .int .u32 0, .int .u32 0, .int .i32 0, .int .i32 0, v1] 144) :: H) := S
  replace h0 := h0.le hM_1
  replace h1 := h1.le hM_1
  replace shb0 := hM_1.2 _ _ shb0
  replace shm0 := shm0.le hM_1
  replace shb1 := hM_1.2 _ _ shb1
  replace shm1 := shm1.le hM_1
  refine WL_nil ?_
  refine T_n ?_
  refine WP_seq ?_
  refine WP_region ?_
  refine S_v E rfl (R_move E rfl) rfl ?_
  clear E a; intro a E
  refine S_v E rfl (R_nilCheck E rfl rfl) rfl ?_
  clear E a; intro a E
  refine S_v E rfl (R_fieldAddr E rfl (FA144_0 _)) rfl ?_
  clear E a; intro a E
  replace S := S.front1
  replace S : St w M_1 (LK p1 144 0 v1 :: _) := S
  refine S_x (X_sp (p := [LK p1 144 0 v1]) E S rfl rfl rfl (rlock_sp Tryz.rwRLib (T := 144) (n := 0) (by decide) (by decide)) (Hp.le.refl _) ?_)
  clear E a S; rintro a _ w M_2 _ hM_2 ⟨rfl, rfl⟩ S E
  replace S : St w M_2 (blk p1 (.cells #[.int .i32 0, .int .u32 0, .int .u32 0, .int .u32 0, .int .i32 1, .int .i32 0, v1] 144) :: blk p0 (.cells #[.int .i32 0, .int .u32 0, .int .u32 0, .int .u32 0, .int .i32 1, .int .i32 0, v0] 144) :: H) := S
  replace h0 := h0.le hM_2
  replace h1 := h1.le hM_2
  replace shb0 := hM_2.2 _ _ shb0
  replace shm0 := shm0.le hM_2
  replace shb1 := hM_2.2 _ _ shb1
  replace shm1 := shm1.le hM_2
  refine WL_nil ?_
  refine T_n ?_
  refine WP_seq ?_
  replace S := S.mono_heap (w' := World.drew _) rfl
  refine WP_drawn (C := fun x w => agree M_2 w ∧ (x = 3 → w.heap[p0]? = some (.cells #[.int .i32 0, .int .u32 0, .int .u32 0, .int .u32 0, .int .i32 1, .int .i32 0, v0] 144)) ∧ (x = 7 → w.heap[p1]? = some (.cells #[.int .i32 0, .int .u32 0, .int .u32 0, .int .u32 0, .int .i32 1, .int .i32 0, v1] 144))) (bf := (fun i => bif Nat.beq i 9 then [3, 7] else [])) [0, 1, 2, 3, 4, 5, 6, 7, 8, 10] [0, 1, 2, 3, 4, 5, 6, 7, 8, 9, 10] Tryz.mixed (by kernel_rfl) (fun x hq => ⟨S.imm, fun _ => (S.mem (.tail _ (.head _))), fun _ => (S.mem (.head _))⟩) ?_
  refine D_v E rfl rfl rfl (fun w hC => (R_move E rfl)) ?_
  clear E a; intro a E
  refine D_v E rfl rfl rfl (fun w hC => (R_nilCheck E rfl rfl)) ?_
  clear E a; intro a E
  refine D_v E rfl rfl rfl (fun w hC => (R_fieldAddr E rfl (FA144_1 _))) ?_
  clear E a; intro a E
  refine D_v E rfl rfl rfl (fun w hC => (R_load E rfl (Tryz.isAgg116 _) (cell_blkf (hC.2.1 rfl) rfl))) ?_
  clear E a; intro a E
  refine D_v E rfl rfl rfl (fun w hC => (R_move E rfl)) ?_
  clear E a; intro a E
  refine D_v E rfl rfl rfl (fun w hC => (R_nilCheck E rfl rfl)) ?_
  clear E a; intro a E
  refine D_v E rfl rfl rfl (fun w hC => (R_fieldAddr E rfl (FA144_1 _))) ?_
  clear E a; intro a E
  refine D_v E rfl rfl rfl (fun w hC => (R_load E rfl (Tryz.isAgg116 _) (cell_blkf (hC.2.2 rfl) rfl))) ?_
  clear E a; intro a E
  refine D_v E rfl rfl rfl (fun w hC => (R_ifaceP E rfl Tryz.underlying116)) ?_
  clear E a; intro a E
  refine D_x rfl rfl rfl (X_pu E S rfl rfl rfl (U_Equal h0 h1 (by first | assumption | omega) (by first | assumption | omega)) (Hp.le.refl _) ?_)
  clear E a S; rintro a _ w M_3 hM_3 rfl S E
  replace h0 := h0.le hM_3
  replace h1 := h1.le hM_3
  replace shb0 := hM_3.2 _ _ shb0
  replace shm0 := shm0.le hM_3
  replace shb1 := hM_3.2 _ _ shb1
  replace shm1 := shm1.le hM_3
  refine ⟨fun x hq hb => ⟨(agree_le hM_3 S.imm), (fun e => by subst e; exact absurd hb (by decide)), (fun e => by subst e; exact absurd hb (by decide))⟩, ?_⟩
  refine D_v E rfl rfl rfl (fun w hC => (R_assign E rfl)) ?_
  clear E a; intro a E
  refine D_end (NoP_n ?_)
  refine T_n ?_
  refine WP_seq ?_
  refine WP_region ?_
  refine S_v E rfl (R_move E rfl) rfl ?_
  clear E a; intro a E
  refine S_v E rfl (R_nilCheck E rfl rfl) rfl ?_
  clear E a; intro a E
  refine S_v E rfl (R_fieldAddr E rfl (FA144_0 _)) rfl ?_
  clear E a; intro a E
  replace S := S.front1
  replace S : St w M_3 (LK p0 144 (0 + 1) v0 :: _) := S
  refine S_x (X_sp (p := [LK p0 144 (0 + 1) v0]) E S rfl rfl rfl (runlock_sp Tryz.rwRLib (T := 144) (n := 0) (by decide) (by decide)) (Hp.le.refl _) ?_)
  clear E a S; rintro a _ w M_4 _ hM_4 ⟨rfl, rfl⟩ S E
  replace S : St w M_4 (blk p0 (.cells #[.int .i32 0, .int .u32 0, .int .u32 0, .int .u32 0, .int .i32 0, .int .i32 0, v0] 144) :: blk p1 (.cells #[.int .i32 0, .int .u32 0, .int .u32 0, .int .u32 0, .int .i32 1, .int .i32 0, v1] 144) :: H) := S
  replace h0 := h0.le hM_4
  replace h1 := h1.le hM_4
  replace shb0 := hM_4.2 _ _ shb0
  replace shm0 := shm0.le hM_4
  replace shb1 := hM_4.2 _ _ shb1
  replace shm1 := shm1.le hM_4
  refine WL_nil ?_
  refine T_n ?_
  refine WP_seq ?_
  refine WP_region ?_
  refine S_v E rfl (R_move E rfl) rfl ?_
  clear E a; intro a E
  refine S_v E rfl (R_nilCheck E rfl rfl) rfl ?_
  clear E a; intro a E
  refine S_v E rfl (R_fieldAddr E rfl (FA144_0 _)) rfl ?_
  clear E a; intro a E
  replace S := S.front1
  replace S : St w M_4 (LK p1 144 (0 + 1) v1 :: _) := S
  refine S_x (X_sp (p := [LK p1 144 (0 + 1) v1]) E S rfl rfl rfl (runlock_sp Tryz.rwRLib (T := 144) (n := 0) (by decide) (by decide)) (Hp.le.refl _) ?_)
  clear E a S; rintro a _ w M_5 _ hM_5 ⟨rfl, rfl⟩ S E
  replace S : St w M_5 (blk p1 (.cells #[.int .i32 0, .int .u32 0, .int .u32 0, .int .u32 0, .int .i32 0, .int .i32 0, v1] 144) :: blk p0 (.cells #[.int .i32 0, .int .u32 0, .int .u32 0, .int .u32 0, .int .i32 0, .int .i32 0, v0] 144) :: H) := S
  replace h0 := h0.le hM_5
  replace h1 := h1.le hM_5
  replace shb0 := hM_5.2 _ _ shb0
  replace shm0 := shm0.le hM_5
  replace shb1 := hM_5.2 _ _ shb1
  replace shm1 := shm1.le hM_5
  refine WL_nil ?_
  refine T_n ?_
  refine WP_seq ?_
  refine WP_region ?_
  refine S_v E rfl (R_move E rfl) rfl ?_
  clear E a; intro a E
  refine S_v E rfl (R_assign E rfl) rfl ?_
  clear E a; intro a E
  refine WL_nil ?_
  refine T_n ?_
  refine WP_ret ?_
  replace S := S.front1
  exact F_ret1 E Tryz.results170 rfl ⟨_, rfl, M_5, _, (hM_1.trans (hM_2.trans (hM_3.trans (hM_4.trans hM_5)))), ⟨rfl, rfl⟩, S⟩

set_option maxRecDepth 100000 in
set_option maxHeartbeats 4000000 in
theorem AS_Equal {M : Hp} {p0 : Nat} {v0 : Value} {c0 : List Int} (h0 : RdSU 145 M v0 c0) (b0 : c0.length ≤ 1000000000)  :
    Sp Tryz.prog (.func (.func 170) #[] #[]) M [.pointer (some ⟨p0, 0, none⟩), .iface 114 (.pointer (some ⟨p0, 0, none⟩))] [blk p0 (.cells #[.int .i32 0, .int .u32 0, .int .u32 0, .int .u32 0, .int .i32 0, .int .i32 0, v0] 144)] (fun r M' C' => C' = [blk p0 (.cells #[.int .i32 0, .int .u32 0, .int .u32 0, .int .u32 0, .int .i32 0, .int .i32 0, v0] 144)] ∧ (r = .bool (sub' c0 c0 && sub' c0 c0))) := by
  refine Sp_enter Tryz.func170 rfl Tryz.ntmps170 rfl Tryz.call170 ?_
  intro a w M1 H hM1 S E
  replace S : St w M1 (blk p0 (.cells #[.int .i32 0, .int .u32 0, .int .u32 0, .int .u32 0, .int .i32 0, .int .i32 0, v0] 144) :: _) := S
  replace h0 := h0.le hM1
  have hset := h0
  obtain ⟨sb0, sm0, sq0, se0, shb0, shm0, shn0, shq0⟩ := hset
  have shq0l : sq0.length ≤ c0.length := nodup_len shn0 fun z hz => (shq0 z).1 hz
  refine WP_seq ?_
  refine WP_region ?_
  refine S_v E rfl (R_assign E rfl) rfl ?_
  clear E a; intro a E
  refine WL_nil ?_
  refine T_n ?_
  refine WP_seq ?_
  refine WP_region ?_
  refine S_v E rfl (R_move E rfl) rfl ?_
  clear E a; intro a E
  refine S_v E rfl (R_assert E rfl Tryz.underlying114 (by intro z hz; cases hz)) rfl ?_
  clear E a; intro a E
  refine S_v E rfl (R_assign E rfl) rfl ?_
  clear E a; intro a E
  refine WL_nil ?_
  refine T_n ?_
  refine WP_seq ?_
  refine WP_region ?_
  refine S_v E rfl (R_move E rfl) rfl ?_
  clear E a; intro a E
  refine S_v E rfl (R_nilCheck E rfl rfl) rfl ?_
  clear E a; intro a E
  refine S_v E rfl (R_fieldAddr E rfl (FA144_0 _)) rfl ?_
  clear E a; intro a E
  replace S : St w M1 (LK p0 144 0 v0 :: _) := S
  refine S_x (X_sp (p := [LK p0 144 0 v0]) E S rfl rfl rfl (rlock_sp Tryz.rwRLib (T := 144) (n := 0) (by decide) (by decide)) (Hp.le.refl _) ?_)
  clear E a S; rintro a _ w M_1 _ hM_1 ⟨rfl, rfl⟩ S E
  replace S : St w M_1 (blk p0 (.cells #[.int .i32 0, .int .u32 0, .int .u32 0, .int .u32 0, .int .i32 1, .int .i32 0, v0] 144) :: H) := S
  replace h0 := h0.le hM_1
  replace shb0 := hM_1.2 _ _ shb0
  replace shm0 := shm0.le hM_1
  refine WL_nil ?_
  refine T_n ?_
  refine WP_seq ?_
  refine WP_region ?_
  refine S_v E rfl (R_move E rfl) rfl ?_
  clear E a; intro a E
  refine S_v E rfl (R_nilCheck E rfl rfl) rfl ?_
  clear E a; intro a E
  refine S_v E rfl (R_fieldAddr E rfl (FA144_0 _)) rfl ?_
  clear E a; intro a E
  replace S : St w M_1 (LK p0 144 1 v0 :: _) := S
  refine S_x (X_sp (p := [LK p0 144 1 v0]) E S rfl rfl rfl (rlock_sp Tryz.rwRLib (T := 144) (n := 1) (by decide) (by decide)) (Hp.le.refl _) ?_)
  clear E a S; rintro a _ w M_2 _ hM_2 ⟨rfl, rfl⟩ S E
  replace S : St w M_2 (blk p0 (.cells #[.int .i32 0, .int .u32 0, .int .u32 0, .int .u32 0, .int .i32 2, .int .i32 0, v0] 144) :: H) := S
  replace h0 := h0.le hM_2
  replace shb0 := hM_2.2 _ _ shb0
  replace shm0 := shm0.le hM_2
  refine WL_nil ?_
  refine T_n ?_
  refine WP_seq ?_
  replace S := S.mono_heap (w' := World.drew _) rfl
  refine WP_drawn (C := fun x w => agree M_2 w ∧ (x = 3 → w.heap[p0]? = some (.cells #[.int .i32 0, .int .u32 0, .int .u32 0, .int .u32 0, .int .i32 2, .int .i32 0, v0] 144)) ∧ (x = 7 → w.heap[p0]? = some (.cells #[.int .i32 0, .int .u32 0, .int .u32 0, .int .u32 0, .int .i32 2, .int .i32 0, v0] 144))) (bf := (fun i => bif Nat.beq i 9 then [3, 7] else [])) [0, 1, 2, 3, 4, 5, 6, 7, 8, 10] [0, 1, 2, 3, 4, 5, 6, 7, 8, 9, 10] Tryz.mixed (by kernel_rfl) (fun x hq => ⟨S.imm, fun _ => (S.mem (.head _)), fun _ => (S.mem (.head _))⟩) ?_
  refine D_v E rfl rfl rfl (fun w hC => (R_move E rfl)) ?_
  clear E a; intro a E
  refine D_v E rfl rfl rfl (fun w hC => (R_nilCheck E rfl rfl)) ?_
  clear E a; intro a E
  refine D_v E rfl rfl rfl (fun w hC => (R_fieldAddr E rfl (FA144_1 _))) ?_
  clear E a; intro a E
  refine D_v E rfl rfl rfl (fun w hC => (R_load E rfl (Tryz.isAgg116 _) (cell_blkf (hC.2.1 rfl) rfl))) ?_
  clear E a; intro a E
  refine D_v E rfl rfl rfl (fun w hC => (R_move E rfl)) ?_
  clear E a; intro a E
  refine D_v E rfl rfl rfl (fun w hC => (R_nilCheck E rfl rfl)) ?_
  clear E a; intro a E
  refine D_v E rfl rfl rfl (fun w hC => (R_fieldAddr E rfl (FA144_1 _))) ?_
  clear E a; intro a E
  refine D_v E rfl rfl rfl (fun w hC => (R_load E rfl (Tryz.isAgg116 _) (cell_blkf (hC.2.2 rfl) rfl))) ?_
  clear E a; intro a E
  refine D_v E rfl rfl rfl (fun w hC => (R_ifaceP E rfl Tryz.underlying116)) ?_
  clear E a; intro a E
  refine D_x rfl rfl rfl (X_pu E S rfl rfl rfl (U_Equal h0 h0 (by first | assumption | omega) (by first | assumption | omega)) (Hp.le.refl _) ?_)
  clear E a S; rintro a _ w M_3 hM_3 rfl S E
  replace h0 := h0.le hM_3
  replace shb0 := hM_3.2 _ _ shb0
  replace shm0 := shm0.le hM_3
  refine ⟨fun x hq hb => ⟨(agree_le hM_3 S.imm), (fun e => by subst e; exact absurd hb (by decide)), (fun e => by subst e; exact absurd hb (by decide))⟩, ?_⟩
  refine D_v E rfl rfl rfl (fun w hC => (R_assign E rfl)) ?_
  clear E a; intro a E
  refine D_end (NoP_n ?_)
  refine T_n ?_
  refine WP_seq ?_
  refine WP_region ?_
  refine S_v E rfl (R_move E rfl) rfl ?_
  clear E a; intro a E
  refine S_v E rfl (R_nilCheck E rfl rfl) rfl ?_
  clear E a; intro a E
  refine S_v E rfl (R_fieldAddr E rfl (FA144_0 _)) rfl ?_
  clear E a; intro a E
  replace S : St w M_3 (LK p0 144 (1 + 1) v0 :: _) := S
  refine S_x (X_sp (p := [LK p0 144 (1 + 1) v0]) E S rfl rfl rfl (runlock_sp Tryz.rwRLib (T := 144) (n := 1) (by decide) (by decide)) (Hp.le.refl _) ?_)
  clear E a S; rintro a _ w M_4 _ hM_4 ⟨rfl, rfl⟩ S E
  replace S : St w M_4 (blk p0 (.cells #[.int .i32 0, .int .u32 0, .int .u32 0, .int .u32 0, .int .i32 1, .int .i32 0, v0] 144) :: H) := S
  replace h0 := h0.le hM_4
  replace shb0 := hM_4.2 _ _ shb0
  replace shm0 := shm0.le hM_4
  refine WL_nil ?_
  refine T_n ?_
  refine WP_seq ?_
  refine WP_region ?_
  refine S_v E rfl (R_move E rfl) rfl ?_
  clear E a; intro a E
  refine S_v E rfl (R_nilCheck E rfl rfl) rfl ?_
  clear E a; intro a E
  refine S_v E rfl (R_fieldAddr E rfl (FA144_0 _)) rfl ?_
  clear E a; intro a E
  replace S : St w M_4 (LK p0 144 (0 + 1) v0 :: _) := S
  refine S_x (X_sp (p := [LK p0 144 (0 + 1) v0]) E S rfl rfl rfl (runlock_sp Tryz.rwRLib (T := 144) (n := 0) (by decide) (by decide)) (Hp.le.refl _) ?_)
  clear E a S; rintro a _ w M_5 _ hM_5 ⟨rfl, rfl⟩ S E
  replace S : St w M_5 (blk p0 (.cells #[.int .i32 0, .int .u32 0, .int .u32 0, .int .u32 0, .int .i32 0, .int .i32 0, v0] 144) :: H) := S
  replace h0 := h0.le hM_5
  replace shb0 := hM_5.2 _ _ shb0
  replace shm0 := shm0.le hM_5
  refine WL_nil ?_
  refine T_n ?_
  refine WP_seq ?_
  refine WP_region ?_
  refine S_v E rfl (R_move E rfl) rfl ?_
  clear E a; intro a E
  refine S_v E rfl (R_assign E rfl) rfl ?_
  clear E a; intro a E
  refine WL_nil ?_
  refine T_n ?_
  refine WP_ret ?_
  exact F_ret1 E Tryz.results170 rfl ⟨_, rfl, M_5, _, (hM_1.trans (hM_2.trans (hM_3.trans (hM_4.trans hM_5)))), ⟨rfl, rfl⟩, S⟩

set_option maxRecDepth 100000 in
set_option maxHeartbeats 4000000 in
theorem reg_Equal {M : Hp} {x0 : Bool} {v : Value} {t : List RG} {i : Nat} {x : RG} {j : Nat} {y : RG} (hx : t[i]? = some x) (hy : t[j]? = some y) (hb : x.2.2.length ≤ 1000000000) (hb2 : y.2.2.length ≤ 1000000000) :
    InvSp Tryz.prog (ifv KS x0 x) "Equal" M [ifv KS x0 y] [Regs KS x0 v t] (fun r _ C' => ∃ D, C' = Regs KS x0 v t :: D ∧ (r = (.bool (sub' x.2.2 y.2.2 && sub' y.2.2 x.2.2)) ∧ D = [])) := by
  refine reg_look2 hx hy (fun M' hM hr hs => ?_) (fun e M' hM hr => ?_)
  · cases x0
    · exact lookU (F := [lkI KS false x, lkI KS false y]) (InvSp.of_pu (fun w => meth_116_Equal _ w) Tryz.call194 (U_Equal hr hs hb hb2)) fun r M2 C h => h
    · exact (InvSp.of_sp (fun w => meth_114_Equal _ w) Tryz.call170 (S_Equal hr hs hb hb2)).mono fun r M2 C ⟨h1, h2⟩ => ⟨[], h1, h2, rfl⟩
  · subst e
    cases x0
    · exact lookU (F := [lkI KS false y]) (InvSp.of_pu (fun w => meth_116_Equal _ w) Tryz.call194 (U_Equal hr hr hb hb)) fun r M2 C h => h
    · exact (InvSp.of_sp (fun w => meth_114_Equal _ w) Tryz.call170 (AS_Equal hr hb)).mono fun r M2 C ⟨h1, h2⟩ => ⟨[], h1, h2, rfl⟩

set_option maxRecDepth 100000 in
set_option maxHeartbeats 4000000 in
theorem U_IsSubset {M : Hp} {v0 : Value} {c0 : List Int} (h0 : RdSU 145 M v0 c0) {v1 : Value} {c1 : List Int} (h1 : RdSU 145 M v1 c1) (b0 : c0.length ≤ 1000000000) (b1 : c1.length ≤ 1000000000)  :
    Pu Tryz.prog (.func (.func 197) #[] #[]) M [v0, .iface 116 v1] (fun r M' => r = .bool (sub' c0 c1)) := by
  refine Pu_enter Tryz.func197 rfl Tryz.ntmps197 rfl Tryz.call197 ?_
  intro a w M1 H hM1 S E
  replace h0 := h0.le hM1
  replace h1 := h1.le hM1
  have hcl0 := card_le c0
  have hcl1 := card_le c1
  refine WP_seq ?_
  refine WP_region ?_
  refine S_v E rfl (R_assign E rfl) rfl ?_
  clear E a; intro a E
  refine WL_nil ?_
  refine T_n ?_
  refine WP_seq ?_
  refine WP_region ?_
  refine S_v E rfl (R_move E rfl) rfl ?_
  clear E a; intro a E
  refine S_v E rfl (R_assert E rfl Tryz.underlying116 (by intro z hz; cases hz)) rfl ?_
  clear E a; intro a E
  refine S_v E rfl (R_assign E rfl) rfl ?_
  clear E a; intro a E
  refine WL_nil ?_
  refine T_n ?_
  refine WP_seq ?_
  refine WP_seq ?_
  refine WP_region ?_
  refine S_v E rfl (R_move E rfl) rfl ?_
  clear E a; intro a E
  refine S_x (X_pu E S rfl rfl rfl (U_Cardinality h0 (by first | assumption | omega)) (Hp.le.refl _) ?_)
  clear E a S; rintro a _ w M_1 hM_1 rfl S E
  replace h0 := h0.le hM_1
  replace h1 := h1.le hM_1
  refine S_v E rfl (R_move E rfl) rfl ?_
  clear E a; intro a E
  refine S_x (X_puI E S rfl rfl rfl (meth_116_Cardinality _ _) Tryz.call205 (U_Cardinality h1 (by first | assumption | omega)) (Hp.le.refl _) ?_)
  clear E a S; rintro a _ w M_2 hM_2 rfl S E
  replace h0 := h0.le hM_2
  replace h1 := h1.le hM_2
  refine S_v E rfl (R_gtr E rfl rfl) rfl ?_
  clear E a; intro a E
  refine WL_nil ?_
  refine T_n ?_
  refine WP_cond E rfl (fun hc_3 => ?_) (fun hc_3 => ?_)
  · replace hc_3 := of_decide_eq_true hc_3
    refine WP_seq ?_
    refine WP_region ?_
    refine S_v E rfl (R_assign E rfl) rfl ?_
    clear E a; intro a E
    refine WL_nil ?_
    refine T_n ?_
    refine WP_ret ?_
    refine T_r ?_
    exact F_ret1 E Tryz.results197 rfl ⟨_, rfl, M_2, (hM_1.trans hM_2), (congrArg Value.bool (by (first | exact (sub_t (by first | assumption | exact List.Perm.symm (by assumption)) shq0 (by assumption)).symm | exact (sub_f (k := _) (by assumption) shq0 (by simp_all)).symm | exact (sub_card (by omega)).symm))), S⟩
  · replace hc_3 := of_decide_eq_false hc_3
    refine WP_skip ?_
    refine T_n ?_
    refine WP_seq ?_
    refine WP_seq ?_
    refine WP_region ?_
    refine S_v E rfl (R_move E rfl) rfl ?_
    clear E a; intro a E
    have hset := h0
    obtain ⟨sb0, sm0, sq0, se0, shb0, shm0, shn0, shq0⟩ := hset
    have shq0l : sq0.length ≤ c0.length := nodup_len shn0 fun z hz => (shq0 z).1 hz
    refine S_v E rfl (R_nilCheck E rfl se0) rfl ?_
    clear E a; intro a E
    refine S_v E rfl (R_loadM E (congrArg some se0) Tryz.isAgg145 S.imm (cellM_box shb0)) rfl ?_
    clear E a; intro a E
    refine S_x (X_range E S rfl MT145 shm0 rfl ?_)
    clear E a S; rintro a w i_4 es_5 ck_6 E hf_7 S
    replace S : St w M_2 (ItO sm0 es_5 ck_6 i_4 (Sl.encS ([] : List Int)) :: _) := S
    refine WL_nil ?_
    refine T_n ?_
    refine WP_block ?_
    replace S := S.reIt (p' := (Sl.encS [])) (congrArg Sl.encS (show ([] : List Int) = [] by (first | rfl | (simp [addsL_snoc]; done) | (simp [addsL_snoc, List.filter_append, *]; done))))
    refine WP_loop (γ := List Int) (fun (p : List Int) a w => ∃ (M_8 : Hp), Hp.le M_2 M_8 ∧ St w M_8 (ItO sm0 es_5 ck_6 i_4 (Sl.encS p) :: H) ∧ Env a 26 [] [(5, v1), (17, .pointer (some ⟨i_4, 0, none⟩))] ∧ (p.Nodup) ∧ (∀ z ∈ p, z ∈ sq0) ∧ (p.length ≤ sq0.length) ∧ (∀ z ∈ p, z ∈ c1)) (fun p => sq0.length - p.length) [] ⟨M_2, Hp.le.refl _, S, E.keep ⟨rfl, rfl, trivial⟩, (by simp), (by simp), (by simp), (by simp)⟩ ?_
    try clear E
    try clear S
    try clear a
    try clear w
    rintro p a w ⟨M_8, hM_8, S, E, hL0_0, hL0_1, hL0_2, hL0_3⟩
    replace h0 := h0.le hM_8
    replace h1 := h1.le hM_8
    replace shb0 := hM_8.2 _ _ shb0
    replace shm0 := shm0.le hM_8
    replace hf_7 := hf_7.le hM_8
    refine WP_seq ?_
    refine WP_region ?_
    refine S_x (X_nextS E S rfl hf_7 rfl (by assumption) (by assumption) ?_ ?_)
    · clear E a S; rintro a E hpm_9 S
      refine S_v E rfl (R_extract E rfl rfl) rfl ?_
      clear E a; intro a E
      refine WL_nil ?_
      refine T_n ?_
      refine WP_seq ?_
      refine WP_condF E rfl rfl ?_
      refine WP_exit ?_
      refine T_x ?_
      refine T_x ?_
      refine B_x ?_
      refine T_n ?_
      refine WP_seq ?_
      refine WP_region ?_
      refine S_v E rfl (R_assign E rfl) rfl ?_
      clear E a; intro a E
      refine WL_nil ?_
      refine T_n ?_
      refine WP_ret ?_
      exact F_ret1 E Tryz.results197 rfl ⟨_, rfl, M_8, (hM_1.trans (hM_2.trans hM_8)), (congrArg Value.bool (by (first | exact (sub_t (by first | assumption | exact List.Perm.symm (by assumption)) shq0 (by assumption)).symm | exact (sub_f (k := _) (by assumption) shq0 (by simp_all)).symm | exact (sub_card (by omega)).symm))), S.drop⟩
    · clear E a S w; rintro a w k_10 E hk_11 hk_11n hk_11l S
      refine S_v E rfl (R_extract E rfl rfl) rfl ?_
      clear E a; intro a E
      refine WL_nil ?_
      refine T_n ?_
      refine WP_seq ?_
      refine WP_condT E rfl rfl ?_
      refine WP_skip ?_
      refine T_n ?_
      refine WP_block ?_
      refine WP_seq ?_
      refine WP_region ?_
      refine S_v E rfl (R_entry (k := k_10) (v := .agg #[]) E (by have S1 := S; simp only [Sl.encS, List.map_append, List.map_cons, List.map_nil] at S1; exact S1) hf_7 rfl) rfl ?_
      clear E a; intro a E
      refine S_v E rfl (R_extract E rfl rfl) rfl ?_
      clear E a; intro a E
      refine S_v E rfl (R_assign E rfl) rfl ?_
      clear E a; intro a E
      refine WL_nil ?_
      refine T_n ?_
      refine WP_seq ?_
      refine WP_region ?_
      refine S_v E rfl (R_move E rfl) rfl ?_
      clear E a; intro a E
      refine S_v E rfl (R_move E rfl) rfl ?_
      clear E a; intro a E
      refine S_x (X_pu E S rfl rfl rfl (U_contains h1 (by first | assumption | omega)) (Hp.le.refl _) ?_)
      clear E a S; rintro a _ w M_12 hM_12 rfl S E
      replace h0 := h0.le hM_12
      replace h1 := h1.le hM_12
      replace shb0 := hM_12.2 _ _ shb0
      replace shm0 := shm0.le hM_12
      replace hf_7 := hf_7.le hM_12
      refine S_v E rfl (R_not E rfl) rfl ?_
      clear E a; intro a E
      refine WL_nil ?_
      refine T_n ?_
      refine WP_cond E rfl (fun hc_13 => ?_) (fun hc_13 => ?_)
      · refine WP_seq ?_
        refine WP_region ?_
        refine S_v E rfl (R_assign E rfl) rfl ?_
        clear E a; intro a E
        refine WL_nil ?_
        refine T_n ?_
        refine WP_ret ?_
        refine B_r ?_
        refine T_r ?_
        refine B_r ?_
        refine T_r ?_
        exact F_ret1 E Tryz.results197 rfl ⟨_, rfl, M_12, (hM_1.trans (hM_2.trans (hM_8.trans hM_12))), (congrArg Value.bool (by (first | exact (sub_t (by first | assumption | exact List.Perm.symm (by assumption)) shq0 (by assumption)).symm | exact (sub_f (k := _) (by assumption) shq0 (by simp_all)).symm | exact (sub_card (by omega)).symm))), S.drop⟩
      · refine WP_skip ?_
        refine B_n ?_
        refine T_n ?_
        replace S := S.reIt (p' := (Sl.encS (p ++ [k_10]))) (congrArg Sl.encS (show p ++ [k_10] = (p ++ [k_10]) by (first | rfl | (simp [addsL_snoc]; done) | (simp [addsL_snoc, List.filter_append, *]; done))))
        exact ⟨(p ++ [k_10]), ⟨M_12, (hM_8.trans hM_12), S, E.keep ⟨rfl, rfl, trivial⟩, (by exact snocN (by assumption) (by assumption)), (by exact snocS (by assumption) (by assumption)), (by simp; omega), (by exact snocP (Q := fun z => z ∈ c1) (by assumption) (by first | assumption | (simp_all; done)))⟩, (by simp; omega)⟩

end Go.Proofs.YtlmpgefhnmfhpaaGreat.wFnSetsApart
