/- Walks through the functions that laws.FnSetKinds reaches: what each computes; no conditions beyond what each theorem states. -/
import Derived.Test.YtlmpgefhnmfhpaaGreatWFnSetKindsb
set_option linter.unusedVariables false
set_option linter.unusedSimpArgs false
namespace Go.Proofs.YtlmpgefhnmfhpaaGreat.wFnSetKinds
open Go Go.Sl
set_option maxRecDepth 100000 in
set_option maxHeartbeats 4000000 in
theorem U_IsSubset {M : Hp} {v0 : Value} {c0 : List Int} (h0 : RdSU 145 M v0 c0) {v1 : Value} {c1 : List Int} (h1 : RdSU 145 M v1 c1) (b0 : c0.length ≤ 1000000000) (b1 : c1.length ≤ 1000000000)  :
    Pu Tryz.prog (.func (.func 197) #[] #[]) M [v0, .iface 116 v1] (fun r M' => r = .bool (sub' c0 c1)) := by
  refine Pu_enter Tryz.func197 rfl Tryz.ntmps197 rfl Tryz.call197 ?_
  intro a w M1 H hM1 S E
  replace h0 := h0.le hM1
  replace h1 := h1.le hM1
  have hcl0 := card_le c0
  have hcl1 := card_le c1
  refine WP_seq ?_
  refine WP_region ?_
  refine S_v E rfl (R_assign E rfl) rfl ?_
  clear E a; intro a E
  refine WL_nil ?_
  refine T_n ?_
  refine WP_seq ?_
  refine WP_region ?_
  refine S_v E rfl (R_move E rfl) rfl ?_
  clear E a; intro a E
  refine S_v E rfl (R_assert E rfl Tryz.underlying116 (by intro z hz; cases hz)) rfl ?_
  clear E a; intro a E
  refine S_v E rfl (R_assign E rfl) rfl ?_
  clear E a; intro a E
  refine WL_nil ?_
  refine T_n ?_
  refine WP_seq ?_
  refine WP_seq ?_
  refine WP_region ?_
  refine S_v E rfl (R_move E rfl) rfl ?_
  clear E a; intro a E
  refine S_x (X_pu E S rfl rfl rfl (U_Cardinality h0 (by first | assumption | omega)) (Hp.le.refl _) ?_)
  clear E a S; rintro a _ w M_1 hM_1 rfl S E
  replace h0 := h0.le hM_1
  replace h1 := h1.le hM_1
  refine S_v E rfl (R_move E rfl) rfl ?_
  clear E a; intro a E
  refine S_x (X_puI E S rfl rfl rfl (meth_116_Cardinality _ _) Tryz.call205 (U_Cardinality h1 (by first | assumption | omega)) (Hp.le.refl _) ?_)
  clear E a S; rintro a _ w M_2 hM_2 rfl S E
  replace h0 := h0.le hM_2
  replace h1 := h1.le hM_2
  refine S_v E rfl (R_gtr E rfl rfl) rfl ?_
  clear E a; intro a E
  refine WL_nil ?_
  refine T_n ?_
  refine WP_cond E rfl (fun hc_3 => ?_) (fun hc_3 => ?_)
  · replace hc_3 := of_decide_eq_true hc_3
    refine WP_seq ?_
    refine WP_region ?_
    refine S_v E rfl (R_assign E rfl) rfl ?_
    clear E a; intro a E
    refine WL_nil ?_
    refine T_n ?_
    refine WP_ret ?_
    refine T_r ?_
    exact F_ret1 E Tryz.results197 rfl ⟨_, rfl, M_2, (hM_1.trans hM_2), (congrArg Value.bool (by (first | exact (sub_t (by first | assumption | exact List.Perm.symm (by assumption)) shq0 (by assumption)).symm | exact (sub_f (k := _) (by assumption) shq0 (by simp_all)).symm | exact (sub_card (by omega)).symm))), S⟩
  · replace hc_3 := of_decide_eq_false hc_3
    refine WP_skip ?_
    refine T_n ?_
    refine WP_seq ?_
    refine WP_seq ?_
    refine WP_region ?_
    refine S_v E rfl (R_move E rfl) rfl ?_
    clear E a; intro a E
    have hset := h0
    obtain ⟨sb0, sm0, sq0, se0, shb0, shm0, shn0, shq0⟩ := hset
    have shq0l : sq0.length ≤ c0.length := nodup_len shn0 fun z hz => (shq0 z).1 hz
    refine S_v E rfl (R_nilCheck E rfl se0) rfl ?_
    clear E a; intro a E
    refine S_v E rfl (R_loadM E (congrArg some se0) Tryz.isAgg145 S.imm (cellM_box shb0)) rfl ?_
    clear E a; intro a E
    refine S_x (X_range E S rfl MT145 shm0 rfl ?_)
    clear E a S; rintro a w i_4 es_5 ck_6 E hf_7 S
    replace S : St w M_2 (ItO sm0 es_5 ck_6 i_4 (Sl.encS ([] : List Int)) :: _) := S
    refine WL_nil ?_
    refine T_n ?_
    refine WP_block ?_
    replace S := S.reIt (p' := (Sl.encS [])) (congrArg Sl.encS (show ([] : List Int) = [] by (first | rfl | (simp [addsL_snoc]; done) | (simp [addsL_snoc, List.filter_append, *]; done))))
    refine WP_loop (γ := List Int) (fun (p : List Int) a w => ∃ (M_8 : Hp), Hp.le M_2 M_8 ∧ St w M_8 (ItO sm0 es_5 ck_6 i_4 (Sl.encS p) :: H) ∧ Env a 26 [] [(5, v1), (17, .pointer (some ⟨i_4, 0, none⟩))] ∧ (p.Nodup) ∧ (∀ z ∈ p, z ∈ sq0) ∧ (p.length ≤ sq0.length) ∧ (∀ z ∈ p, z ∈ c1)) (fun p => sq0.length - p.length) [] ⟨M_2, Hp.le.refl _, S, E.keep ⟨rfl, rfl, trivial⟩, (by simp), (by simp), (by simp), (by simp)⟩ ?_
    try clear E
    try clear S
    try clear a
    try clear w
    rintro p a w ⟨M_8, hM_8, S, E, hL0_0, hL0_1, hL0_2, hL0_3⟩
    replace h0 := h0.le hM_8
    replace h1 := h1.le hM_8
    replace shb0 := hM_8.2 _ _ shb0
    replace shm0 := shm0.le hM_8
    replace hf_7 := hf_7.le hM_8
    refine WP_seq ?_
    refine WP_region ?_
    refine S_x (X_nextS E S rfl hf_7 rfl (by assumption) (by assumption) ?_ ?_)
    · clear E a S; rintro a E hpm_9 S
      refine S_v E rfl (R_extract E rfl rfl) rfl ?_
      clear E a; intro a E
      refine WL_nil ?_
      refine T_n ?_
      refine WP_seq ?_
      refine WP_condF E rfl rfl ?_
      refine WP_exit ?_
      refine T_x ?_
      refine T_x ?_
      refine B_x ?_
      refine T_n ?_
      refine WP_seq ?_
      refine WP_region ?_
      refine S_v E rfl (R_assign E rfl) rfl ?_
      clear E a; intro a E
      refine WL_nil ?_
      refine T_n ?_
      refine WP_ret ?_
      exact F_ret1 E Tryz.results197 rfl ⟨_, rfl, M_8, (hM_1.trans (hM_2.trans hM_8)), (congrArg Value.bool (by (first | exact (sub_t (by first | assumption | exact List.Perm.symm (by assumption)) shq0 (by assumption)).symm | exact (sub_f (k := _) (by assumption) shq0 (by simp_all)).symm | exact (sub_card (by omega)).symm))), S.drop⟩
    · clear E a S w; rintro a w k_10 E hk_11 hk_11n hk_11l S
      refine S_v E rfl (R_extract E rfl rfl) rfl ?_
      clear E a; intro a E
      refine WL_nil ?_
      refine T_n ?_
      refine WP_seq ?_
      refine WP_condT E rfl rfl ?_
      refine WP_skip ?_
      refine T_n ?_
      refine WP_block ?_
      refine WP_seq ?_
      refine WP_region ?_
      refine S_v E rfl (R_entry (k := k_10) (v := .agg #[]) E (by have S1 := S; simp only [Sl.encS, List.map_append, List.map_cons, List.map_nil] at S1; exact S1) hf_7 rfl) rfl ?_
      clear E a; intro a E
      refine S_v E rfl (R_extract E rfl rfl) rfl ?_
      clear E a; intro a E
      refine S_v E rfl (R_assign E rfl) rfl ?_
      clear E a; intro a E
      refine WL_nil ?_
      refine T_n ?_
      refine WP_seq ?_
      refine WP_region ?_
      refine S_v E rfl (R_move E rfl) rfl ?_
      clear E a; intro a E
      refine S_v E rfl (R_move E rfl) rfl ?_
      clear E a; intro a E
      refine S_x (X_pu E S rfl rfl rfl (U_contains h1 (by first | assumption | omega)) (Hp.le.refl _) ?_)
      clear E a S; rintro a _ w M_12 hM_12 rfl S E
      replace h0 := h0.le hM_12
      replace h1 := h1.le hM_12
      replace shb0 := hM_12.2 _ _ shb0
      replace shm0 := shm0.le hM_12
      replace hf_7 := hf_7.le hM_12
      refine S_v E rfl (R_not E rfl) rfl ?_
      clear E a; intro a E
      refine WL_nil ?_
      refine T_n ?_
      refine WP_cond E rfl (fun hc_13 => ?_) (fun hc_13 => ?_)
      · refine WP_seq ?_
        refine WP_region ?_
        refine S_v E rfl (R_assign E rfl) rfl ?_
        clear E a; intro a E
        refine WL_nil ?_
        refine T_n ?_
        refine WP_ret ?_
        refine B_r ?_
        refine T_r ?_
        refine B_r ?_
        refine T_r ?_
        exact F_ret1 E Tryz.results197 rfl ⟨_, rfl, M_12, (hM_1.trans (hM_2.trans (hM_8.trans hM_12))), (congrArg Value.bool (by (first | exact (sub_t (by first | assumption | exact List.Perm.symm (by assumption)) shq0 (by assumption)).symm | exact (sub_f (k := _) (by assumption) shq0 (by simp_all)).symm | exact (sub_card (by omega)).symm))), S.drop⟩
      · refine WP_skip ?_
        refine B_n ?_
        refine T_n ?_
        replace S := S.reIt (p' := (Sl.encS (p ++ [k_10]))) (congrArg Sl.encS (show p ++ [k_10] = (p ++ [k_10]) by (first | rfl | (simp [addsL_snoc]; done) | (simp [addsL_snoc, List.filter_append, *]; done))))
        exact ⟨(p ++ [k_10]), ⟨M_12, (hM_8.trans hM_12), S, E.keep ⟨rfl, rfl, trivial⟩, (by exact snocN (by assumption) (by assumption)), (by exact snocS (by assumption) (by assumption)), (by simp; omega), (by exact snocP (Q := fun z => z ∈ c1) (by assumption) (by first | assumption | (simp_all; done)))⟩, (by simp; omega)⟩

set_option maxRecDepth 100000 in
set_option maxHeartbeats 4000000 in
theorem S_IsSubset {M : Hp} {p0 : Nat} {v0 : Value} {c0 : List Int} (h0 : RdSU 145 M v0 c0) {p1 : Nat} {v1 : Value} {c1 : List Int} (h1 : RdSU 145 M v1 c1) (b0 : c0.length ≤ 1000000000) (b1 : c1.length ≤ 1000000000)  :
    Sp Tryz.prog (.func (.func 175) #[] #[]) M [.pointer (some ⟨p0, 0, none⟩), .iface 114 (.pointer (some ⟨p1, 0, none⟩))] [blk p0 (.cells #[.int .i32 0, .int .u32 0, .int .u32 0, .int .u32 0, .int .i32 0, .int .i32 0, v0] 144), blk p1 (.cells #[.int .i32 0, .int .u32 0, .int .u32 0, .int .u32 0, .int .i32 0, .int .i32 0, v1] 144)] (fun r M' C' => C' = [blk p0 (.cells #[.int .i32 0, .int .u32 0, .int .u32 0, .int .u32 0, .int .i32 0, .int .i32 0, v0] 144), blk p1 (.cells #[.int .i32 0, .int .u32 0, .int .u32 0, .int .u32 0, .int .i32 0, .int .i32 0, v1] 144)] ∧ (r = .bool (sub' c0 c1))) := by
  refine Sp_enter Tryz.func175 rfl Tryz.ntmps175 rfl Tryz.call175 ?_
  intro a w M1 H hM1 S E
  replace S : St w M1 (blk p0 (.cells #[.int .i32 0, .int .u32 0, .int .u32 0, .int .u32 0, .int .i32 0, .int .i32 0, v0] 144) :: blk p1 (.cells #[.int .i32 0, .int .u32 0, .int .u32 0, .int .u32 0, .int .i32 0, .int .i32 0, v1] 144) :: _) := S
  replace h0 := h0.le hM1
  replace h1 := h1.le hM1
  have hset := h0
  obtain ⟨sb0, sm0, sq0, se0, shb0, shm0, shn0, shq0⟩ := hset
  have shq0l : sq0.length ≤ c0.length := nodup_len shn0 fun z hz => (shq0 z).1 hz
  have hset := h1
  obtain ⟨sb1, sm1, sq1, se1, shb1, shm1, shn1, shq1⟩ := hset
  have shq1l : sq1.length ≤ c1.length := nodup_len shn1 fun z hz => (shq1 z).1 hz
  refine WP_seq ?_
  refine WP_region ?_
  refine S_v E rfl (R_assign E rfl) rfl ?_
  clear E a; intro a E
  refine WL_nil ?_
  refine T_n ?_
  refine WP_seq ?_
  refine WP_region ?_
  refine S_v E rfl (R_move E rfl) rfl ?_
  clear E a; intro a E
  refine S_v E rfl (R_assert E rfl Tryz.underlying114 (by intro z hz; cases hz)) rfl ?_
  clear E a; intro a E
  refine S_v E rfl (R_assign E rfl) rfl ?_
  clear E a; intro a E
  refine WL_nil ?_
  refine T_n ?_
  refine WP_seq ?_
  refine WP_region ?_
  refine S_v E rfl (R_move E rfl) rfl ?_
  clear E a; intro a E
  refine S_v E rfl (R_nilCheck E rfl rfl) rfl ?_
  clear E a; intro a E
  refine S_v E rfl (R_fieldAddr E rfl (FA144_0 _)) rfl ?_
  clear E a; intro a E
  replace S : St w M1 (LK p0 144 0 v0 :: _) := S
  refine S_x (X_sp (p := [LK p0 144 0 v0]) E S rfl rfl rfl (rlock_sp Tryz.rwRLib (T := 144) (n := 0) (by decide) (by decide)) (Hp.le.refl _) ?_)
  clear E a S; rintro a _ w M_1 _ hM_1 ⟨rfl, rfl⟩ S E
  replace S : St w M_1 (blk p0 (.cells #[.int .i32 0, .int .u32 0, .int .u32 0, .int .u32 0, .int .i32 1, .int .i32 0, v0] 144) :: blk p1 (.cells #[.int .i32 0, .int .u32 0, .int .u32 0, .int .u32 0, .int .i32 0, .int .i32 0, v1] 144) :: H) := S
  replace h0 := h0.le hM_1
  replace h1 := h1.le hM_1
  replace shb0 := hM_1.2 _ _ shb0
  replace shm0 := shm0.le hM_1
  replace shb1 := hM_1.2 _ _ shb1
  replace shm1 := shm1.le hM_1
  refine WL_nil ?_
  refine T_n ?_
  refine WP_seq ?_
  refine WP_region ?_
  refine S_v E rfl (R_move E rfl) rfl ?_
  clear E a; intro a E
  refine S_v E rfl (R_nilCheck E rfl rfl) rfl ?_
  clear E a; intro a E
  refine S_v E rfl (R_fieldAddr E rfl (FA144_0 _)) rfl ?_
  clear E a; intro a E
  replace S := S.front1
  replace S : St w M_1 (LK p1 144 0 v1 :: _) := S
  refine S_x (X_sp (p := [LK p1 144 0 v1]) E S rfl rfl rfl (rlock_sp Tryz.rwRLib (T := 144) (n := 0) (by decide) (by decide)) (Hp.le.refl _) ?_)
  clear E a S; rintro a _ w M_2 _ hM_2 ⟨rfl, rfl⟩ S E
  replace S : St w M_2 (blk p1 (.cells #[.int .i32 0, .int .u32 0, .int .u32 0, .int .u32 0, .int .i32 1, .int .i32 0, v1] 144) :: blk p0 (.cells #[.int .i32 0, .int .u32 0, .int .u32 0, .int .u32 0, .int .i32 1, .int .i32 0, v0] 144) :: H) := S
  replace h0 := h0.le hM_2
  replace h1 := h1.le hM_2
  replace shb0 := hM_2.2 _ _ shb0
  replace shm0 := shm0.le hM_2
  replace shb1 := hM_2.2 _ _ shb1
  replace shm1 := shm1.le hM_2
  refine WL_nil ?_
  refine T_n ?_
  refine WP_seq ?_
  replace S := S.mono_heap (w' := World.drew _) rfl
  refine WP_drawn (C := fun x w => agree M_2 w ∧ (x = 3 → w.heap[p0]? = some (.cells #[.int .i32 0, .int .u32 0, .int .u32 0, .int .u32 0, .int .i32 1, .int .i32 0, v0] 144)) ∧ (x = 7 → w.heap[p1]? = some (.cells #[.int .i32 0, .int .u32 0, .int .u32 0, .int .u32 0, .int .i32 1, .int .i32 0, v1] 144))) (bf := (fun i => bif Nat.beq i 9 then [3, 7] else [])) [0, 1, 2, 3, 4, 5, 6, 7, 8, 10] [0, 1, 2, 3, 4, 5, 6, 7, 8, 9, 10] Tryz.mixed (by kernel_rfl) (fun x hq => ⟨S.imm, fun _ => (S.mem (.tail _ (.head _))), fun _ => (S.mem (.head _))⟩) ?_
  refine D_v E rfl rfl rfl (fun w hC => (R_move E rfl)) ?_
  clear E a; intro a E
  refine D_v E rfl rfl rfl (fun w hC => (R_nilCheck E rfl rfl)) ?_
  clear E a; intro a E
  refine D_v E rfl rfl rfl (fun w hC => (R_fieldAddr E rfl (FA144_1 _))) ?_
  clear E a; intro a E
  refine D_v E rfl rfl rfl (fun w hC => (R_load E rfl (Tryz.isAgg116 _) (cell_blkf (hC.2.1 rfl) rfl))) ?_
  clear E a; intro a E
  refine D_v E rfl rfl rfl (fun w hC => (R_move E rfl)) ?_
  clear E a; intro a E
  refine D_v E rfl rfl rfl (fun w hC => (R_nilCheck E rfl rfl)) ?_
  clear E a; intro a E
  refine D_v E rfl rfl rfl (fun w hC => (R_fieldAddr E rfl (FA144_1 _))) ?_
  clear E a; intro a E
  refine D_v E rfl rfl rfl (fun w hC => (R_load E rfl (Tryz.isAgg116 _) (cell_blkf (hC.2.2 rfl) rfl))) ?_
  clear E a; intro a E
  refine D_v E rfl rfl rfl (fun w hC => (R_ifaceP E rfl Tryz.underlying116)) ?_
  clear E a; intro a E
  refine D_x rfl rfl rfl (X_pu E S rfl rfl rfl (U_IsSubset h0 h1 (by first | assumption | omega) (by first | assumption | omega)) (Hp.le.refl _) ?_)
  clear E a S; rintro a _ w M_3 hM_3 rfl S E
  replace h0 := h0.le hM_3
  replace h1 := h1.le hM_3
  replace shb0 := hM_3.2 _ _ shb0
  replace shm0 := shm0.le hM_3
  replace shb1 := hM_3.2 _ _ shb1
  replace shm1 := shm1.le hM_3
  refine ⟨fun x hq hb => ⟨(agree_le hM_3 S.imm), (fun e => by subst e; exact absurd hb (by decide)), (fun e => by subst e; exact absurd hb (by decide))⟩, ?_⟩
  refine D_v E rfl rfl rfl (fun w hC => (R_assign E rfl)) ?_
  clear E a; intro a E
  refine D_end (NoP_n ?_)
  refine T_n ?_
  refine WP_seq ?_
  refine WP_region ?_
  refine S_v E rfl (R_move E rfl) rfl ?_
  clear E a; intro a E
  refine S_v E rfl (R_nilCheck E rfl rfl) rfl ?_
  clear E a; intro a E
  refine S_v E rfl (R_fieldAddr E rfl (FA144_0 _)) rfl ?_
  clear E a; intro a E
  replace S := S.front1
  replace S : St w M_3 (LK p0 144 (0 + 1) v0 :: _) := S
  refine S_x (X_sp (p := [LK p0 144 (0 + 1) v0]) E S rfl rfl rfl (runlock_sp Tryz.rwRLib (T := 144) (n := 0) (by decide) (by decide)) (Hp.le.refl _) ?_)
  clear E a S; rintro a _ w M_4 _ hM_4 ⟨rfl, rfl⟩ S E
  replace S : St w M_4 (blk p0 (.cells #[.int .i32 0, .int .u32 0, .int .u32 0, .int .u32 0, .int .i32 0, .int .i32 0, v0] 144) :: blk p1 (.cells #[.int .i32 0, .int .u32 0, .int .u32 0, .int .u32 0, .int .i32 1, .int .i32 0, v1] 144) :: H) := S
  replace h0 := h0.le hM_4
  replace h1 := h1.le hM_4
  replace shb0 := hM_4.2 _ _ shb0
  replace shm0 := shm0.le hM_4
  replace shb1 := hM_4.2 _ _ shb1
  replace shm1 := shm1.le hM_4
  refine WL_nil ?_
  refine T_n ?_
  refine WP_seq ?_
  refine WP_region ?_
  refine S_v E rfl (R_move E rfl) rfl ?_
  clear E a; intro a E
  refine S_v E rfl (R_nilCheck E rfl rfl) rfl ?_
  clear E a; intro a E
  refine S_v E rfl (R_fieldAddr E rfl (FA144_0 _)) rfl ?_
  clear E a; intro a E
  replace S := S.front1
  replace S : St w M_4 (LK p1 144 (0 + 1) v1 :: _) := S
  refine S_x (X_sp (p := [LK p1 144 (0 + 1) v1]) E S rfl rfl rfl (runlock_sp Tryz.rwRLib (T := 144) (n := 0) (by decide) (by decide)) (Hp.le.refl _) ?_)
  clear E a S; rintro a _ w M_5 _ hM_5 ⟨rfl, rfl⟩ S E
  replace S : St w M_5 (blk p1 (.cells #[.int .i32 0, .int .u32 0, .int .u32 0, .int .u32 0, .int .i32 0, .int .i32 0, v1] 144) :: blk p0 (.cells #[.int .i32 0, .int .u32 0, .int .u32 0, .int .u32 0, .int .i32 0, .int .i32 0, v0] 144) :: H) := S
  replace h0 := h0.le hM_5
  replace h1 := h1.le hM_5
  replace shb0 := hM_5.2 _ _ shb0
  replace shm0 := shm0.le hM_5
  replace shb1 := hM_5.2 _ _ shb1
  replace shm1 := shm1.le hM_5
  refine WL_nil ?_
  refine T_n ?_
  refine WP_seq ?_
  refine WP_region ?_
  refine S_v E rfl (R_move E rfl) rfl ?_
  clear E a; intro a E
  refine S_v E rfl (R_assign E rfl) rfl ?_
  clear E a; intro a E
  refine WL_nil ?_
  refine T_n ?_
  refine WP_ret ?_
  replace S := S.front1
  exact F_ret1 E Tryz.results175 rfl ⟨_, rfl, M_5, _, (hM_1.trans (hM_2.trans (hM_3.trans (hM_4.trans hM_5)))), ⟨rfl, rfl⟩, S⟩

set_option maxRecDepth 100000 in
set_option maxHeartbeats 4000000 in
theorem AS_IsSubset {M : Hp} {p0 : Nat} {v0 : Value} {c0 : List Int} (h0 : RdSU 145 M v0 c0) (b0 : c0.length ≤ 1000000000)  :
    Sp Tryz.prog (.func (.func 175) #[] #[]) M [.pointer (some ⟨p0, 0, none⟩), .iface 114 (.pointer (some ⟨p0, 0, none⟩))] [blk p0 (.cells #[.int .i32 0, .int .u32 0, .int .u32 0, .int .u32 0, .int .i32 0, .int .i32 0, v0] 144)] (fun r M' C' => C' = [blk p0 (.cells #[.int .i32 0, .int .u32 0, .int .u32 0, .int .u32 0, .int .i32 0, .int .i32 0, v0] 144)] ∧ (r = .bool (sub' c0 c0))) := by
  refine Sp_enter Tryz.func175 rfl Tryz.ntmps175 rfl Tryz.call175 ?_
  intro a w M1 H hM1 S E
  replace S : St w M1 (blk p0 (.cells #[.int .i32 0, .int .u32 0, .int .u32 0, .int .u32 0, .int .i32 0, .int .i32 0, v0] 144) :: _) := S
  replace h0 := h0.le hM1
  have hset := h0
  obtain ⟨sb0, sm0, sq0, se0, shb0, shm0, shn0, shq0⟩ := hset
  have shq0l : sq0.length ≤ c0.length := nodup_len shn0 fun z hz => (shq0 z).1 hz
  refine WP_seq ?_
  refine WP_region ?_
  refine S_v E rfl (R_assign E rfl) rfl ?_
  clear E a; intro a E
  refine WL_nil ?_
  refine T_n ?_
  refine WP_seq ?_
  refine WP_region ?_
  refine S_v E rfl (R_move E rfl) rfl ?_
  clear E a; intro a E
  refine S_v E rfl (R_assert E rfl Tryz.underlying114 (by intro z hz; cases hz)) rfl ?_
  clear E a; intro a E
  refine S_v E rfl (R_assign E rfl) rfl ?_
  clear E a; intro a E
  refine WL_nil ?_
  refine T_n ?_
  refine WP_seq ?_
  refine WP_region ?_
  refine S_v E rfl (R_move E rfl) rfl ?_
  clear E a; intro a E
  refine S_v E rfl (R_nilCheck E rfl rfl) rfl ?_
  clear E a; intro a E
  refine S_v E rfl (R_fieldAddr E rfl (FA144_0 _)) rfl ?_
  clear E a; intro a E
  replace S : St w M1 (LK p0 144 0 v0 :: _) := S
  refine S_x (X_sp (p := [LK p0 144 0 v0]) E S rfl rfl rfl (rlock_sp Tryz.rwRLib (T := 144) (n := 0) (by decide) (by decide)) (Hp.le.refl _) ?_)
  clear E a S; rintro a _ w M_1 _ hM_1 ⟨rfl, rfl⟩ S E
  replace S : St w M_1 (blk p0 (.cells #[.int .i32 0, .int .u32 0, .int .u32 0, .int .u32 0, .int .i32 1, .int .i32 0, v0] 144) :: H) := S
  replace h0 := h0.le hM_1
  replace shb0 := hM_1.2 _ _ shb0
  replace shm0 := shm0.le hM_1
  refine WL_nil ?_
  refine T_n ?_
  refine WP_seq ?_
  refine WP_region ?_
  refine S_v E rfl (R_move E rfl) rfl ?_
  clear E a; intro a E
  refine S_v E rfl (R_nilCheck E rfl rfl) rfl ?_
  clear E a; intro a E
  refine S_v E rfl (R_fieldAddr E rfl (FA144_0 _)) rfl ?_
  clear E a; intro a E
  replace S : St w M_1 (LK p0 144 1 v0 :: _) := S
  refine S_x (X_sp (p := [LK p0 144 1 v0]) E S rfl rfl rfl (rlock_sp Tryz.rwRLib (T := 144) (n := 1) (by decide) (by decide)) (Hp.le.refl _) ?_)
  clear E a S; rintro a _ w M_2 _ hM_2 ⟨rfl, rfl⟩ S E
  replace S : St w M_2 (blk p0 (.cells #[.int .i32 0, .int .u32 0, .int .u32 0, .int .u32 0, .int .i32 2, .int .i32 0, v0] 144) :: H) := S
  replace h0 := h0.le hM_2
  replace shb0 := hM_2.2 _ _ shb0
  replace shm0 := shm0.le hM_2
  refine WL_nil ?_
  refine T_n ?_
  refine WP_seq ?_
  replace S := S.mono_heap (w' := World.drew _) rfl
  refine WP_drawn (C := fun x w => agree M_2 w ∧ (x = 3 → w.heap[p0]? = some (.cells #[.int .i32 0, .int .u32 0, .int .u32 0, .int .u32 0, .int .i32 2, .int .i32 0, v0] 144)) ∧ (x = 7 → w.heap[p0]? = some (.cells #[.int .i32 0, .int .u32 0, .int .u32 0, .int .u32 0, .int .i32 2, .int .i32 0, v0] 144))) (bf := (fun i => bif Nat.beq i 9 then [3, 7] else [])) [0, 1, 2, 3, 4, 5, 6, 7, 8, 10] [0, 1, 2, 3, 4, 5, 6, 7, 8, 9, 10] Tryz.mixed (by kernel_rfl) (fun x hq => ⟨S.imm, fun _ => (S.mem (.head _)), fun _ => (S.mem (.head _))⟩) ?_
  refine D_v E rfl rfl rfl (fun w hC => (R_move E rfl)) ?_
  clear E a; intro a E
  refine D_v E rfl rfl rfl (fun w hC => (R_nilCheck E rfl rfl)) ?_
  clear E a; intro a E
  refine D_v E rfl rfl rfl (fun w hC => (R_fieldAddr E rfl (FA144_1 _))) ?_
  clear E a; intro a E
  refine D_v E rfl rfl rfl (fun w hC => (R_load E rfl (Tryz.isAgg116 _) (cell_blkf (hC.2.1 rfl) rfl))) ?_
  clear E a; intro a E
  refine D_v E rfl rfl rfl (fun w hC => (R_move E rfl)) ?_
  clear E a; intro a E
  refine D_v E rfl rfl rfl (fun w hC => (R_nilCheck E rfl rfl)) ?_
  clear E a; intro a E
  refine D_v E rfl rfl rfl (fun w hC => (R_fieldAddr E rfl (FA144_1 _))) ?_
  clear E a; intro a E
  refine D_v E rfl rfl rfl (fun w hC => (R_load E rfl (Tryz.isAgg116 _) (cell_blkf (hC.2.2 rfl) rfl))) ?_
  clear E a; intro a E
  refine D_v E rfl rfl rfl (fun w hC => (R_ifaceP E rfl Tryz.underlying116)) ?_
  clear E a; intro a E
  refine D_x rfl rfl rfl (X_pu E S rfl rfl rfl (U_IsSubset h0 h0 (by first | assumption | omega) (by first | assumption | omega)) (Hp.le.refl _) ?_)
  clear E a S; rintro a _ w M_3 hM_3 rfl S E
  replace h0 := h0.le hM_3
  replace shb0 := hM_3.2 _ _ shb0
  replace shm0 := shm0.le hM_3
  refine ⟨fun x hq hb => ⟨(agree_le hM_3 S.imm), (fun e => by subst e; exact absurd hb (by decide)), (fun e => by subst e; exact absurd hb (by decide))⟩, ?_⟩
  refine D_v E rfl rfl rfl (fun w hC => (R_assign E rfl)) ?_
  clear E a; intro a E
  refine D_end (NoP_n ?_)
  refine T_n ?_
  refine WP_seq ?_
  refine WP_region ?_
  refine S_v E rfl (R_move E rfl) rfl ?_
  clear E a; intro a E
  refine S_v E rfl (R_nilCheck E rfl rfl) rfl ?_
  clear E a; intro a E
  refine S_v E rfl (R_fieldAddr E rfl (FA144_0 _)) rfl ?_
  clear E a; intro a E
  replace S : St w M_3 (LK p0 144 (1 + 1) v0 :: _) := S
  refine S_x (X_sp (p := [LK p0 144 (1 + 1) v0]) E S rfl rfl rfl (runlock_sp Tryz.rwRLib (T := 144) (n := 1) (by decide) (by decide)) (Hp.le.refl _) ?_)
  clear E a S; rintro a _ w M_4 _ hM_4 ⟨rfl, rfl⟩ S E
  replace S : St w M_4 (blk p0 (.cells #[.int .i32 0, .int .u32 0, .int .u32 0, .int .u32 0, .int .i32 1, .int .i32 0, v0] 144) :: H) := S
  replace h0 := h0.le hM_4
  replace shb0 := hM_4.2 _ _ shb0
  replace shm0 := shm0.le hM_4
  refine WL_nil ?_
  refine T_n ?_
  refine WP_seq ?_
  refine WP_region ?_
  refine S_v E rfl (R_move E rfl) rfl ?_
  clear E a; intro a E
  refine S_v E rfl (R_nilCheck E rfl rfl) rfl ?_
  clear E a; intro a E
  refine S_v E rfl (R_fieldAddr E rfl (FA144_0 _)) rfl ?_
  clear E a; intro a E
  replace S : St w M_4 (LK p0 144 (0 + 1) v0 :: _) := S
  refine S_x (X_sp (p := [LK p0 144 (0 + 1) v0]) E S rfl rfl rfl (runlock_sp Tryz.rwRLib (T := 144) (n := 0) (by decide) (by decide)) (Hp.le.refl _) ?_)
  clear E a S; rintro a _ w M_5 _ hM_5 ⟨rfl, rfl⟩ S E
  replace S : St w M_5 (blk p0 (.cells #[.int .i32 0, .int .u32 0, .int .u32 0, .int .u32 0, .int .i32 0, .int .i32 0, v0] 144) :: H) := S
  replace h0 := h0.le hM_5
  replace shb0 := hM_5.2 _ _ shb0
  replace shm0 := shm0.le hM_5
  refine WL_nil ?_
  refine T_n ?_
  refine WP_seq ?_
  refine WP_region ?_
  refine S_v E rfl (R_move E rfl) rfl ?_
  clear E a; intro a E
  refine S_v E rfl (R_assign E rfl) rfl ?_
  clear E a; intro a E
  refine WL_nil ?_
  refine T_n ?_
  refine WP_ret ?_
  exact F_ret1 E Tryz.results175 rfl ⟨_, rfl, M_5, _, (hM_1.trans (hM_2.trans (hM_3.trans (hM_4.trans hM_5)))), ⟨rfl, rfl⟩, S⟩

set_option maxRecDepth 100000 in
set_option maxHeartbeats 4000000 in
theorem reg_IsSubset {M : Hp} {x0 : Bool} {v : Value} {t : List RG} {i : Nat} {x : RG} {j : Nat} {y : RG} (hx : t[i]? = some x) (hy : t[j]? = some y) (hb : x.2.2.length ≤ 1000000000) (hb2 : y.2.2.length ≤ 1000000000) :
    InvSp Tryz.prog (ifv KS x0 x) "IsSubset" M [ifv KS x0 y] [Regs KS x0 v t] (fun r _ C' => ∃ D, C' = Regs KS x0 v t :: D ∧ (r = (.bool (sub' x.2.2 y.2.2)) ∧ D = [])) := by
  refine reg_look2 hx hy (fun M' hM hr hs => ?_) (fun e M' hM hr => ?_)
  · cases x0
    · exact lookU (F := [lkI KS false x, lkI KS false y]) (InvSp.of_pu (fun w => meth_116_IsSubset _ w) Tryz.call197 (U_IsSubset hr hs hb hb2)) fun r M2 C h => h
    · exact (InvSp.of_sp (fun w => meth_114_IsSubset _ w) Tryz.call175 (S_IsSubset hr hs hb hb2)).mono fun r M2 C ⟨h1, h2⟩ => ⟨[], h1, h2, rfl⟩
  · subst e
    cases x0
    · exact lookU (F := [lkI KS false y]) (InvSp.of_pu (fun w => meth_116_IsSubset _ w) Tryz.call197 (U_IsSubset hr hr hb hb)) fun r M2 C h => h
    · exact (InvSp.of_sp (fun w => meth_114_IsSubset _ w) Tryz.call175 (AS_IsSubset hr hb)).mono fun r M2 C ⟨h1, h2⟩ => ⟨[], h1, h2, rfl⟩

set_option maxRecDepth 100000 in
set_option maxHeartbeats 4000000 in
theorem U_IsProperSubset {M : Hp} {v0 : Value} {c0 : List Int} (h0 : RdSU 145 M v0 c0) {v1 : Value} {c1 : List Int} (h1 : RdSU 145 M v1 c1) (b0 : c0.length ≤ 1000000000) (b1 : c1.length ≤ 1000000000)  :
    Pu Tryz.prog (.func (.func 196) #[] #[]) M [v0, .iface 116 v1] (fun r M' => r = .bool ((decide (card c0 < card c1)) && sub' c0 c1)) := by
  refine Pu_enter Tryz.func196 rfl Tryz.ntmps196 rfl Tryz.call196 ?_
  intro a w M1 H hM1 S E
  replace h0 := h0.le hM1
  replace h1 := h1.le hM1
  have hcl0 := card_le c0
  have hcl1 := card_le c1
  refine WP_seq ?_
  refine WP_region ?_
  refine S_v E rfl (R_assign E rfl) rfl ?_
  clear E a; intro a E
  refine WL_nil ?_
  refine T_n ?_
  refine WP_seq ?_
  refine WP_region ?_
  refine S_v E rfl (R_move E rfl) rfl ?_
  clear E a; intro a E
  refine S_x (X_pu E S rfl rfl rfl (U_Cardinality h0 (by first | assumption | omega)) (Hp.le.refl _) ?_)
  clear E a S; rintro a _ w M_1 hM_1 rfl S E
  replace h0 := h0.le hM_1
  replace h1 := h1.le hM_1
  refine S_v E rfl (R_move E rfl) rfl ?_
  clear E a; intro a E
  refine S_x (X_puI E S rfl rfl rfl (meth_116_Cardinality _ _) Tryz.call205 (U_Cardinality h1 (by first | assumption | omega)) (Hp.le.refl _) ?_)
  clear E a S; rintro a _ w M_2 hM_2 rfl S E
  replace h0 := h0.le hM_2
  replace h1 := h1.le hM_2
  refine S_v E rfl (R_lss E rfl rfl) rfl ?_
  clear E a; intro a E
  refine S_v E rfl (R_move E rfl) rfl ?_
  clear E a; intro a E
  refine split_bool (decide (((card c0 : Nat) : Int) < ((card c1 : Nat) : Int))) (fun hc_3 => ?_) (fun hc_3 => ?_)
  · replace E := E.val (t := 9) rfl hc_3
    replace E := E.val (t := 10) rfl hc_3
    replace hc_3 := of_decide_eq_true hc_3
    refine WL_guard_yes E rfl rfl ?_
    refine S_v E rfl (R_move E rfl) rfl ?_
    clear E a; intro a E
    refine WL_guard_yes E rfl rfl ?_
    refine S_v E rfl (R_move E rfl) rfl ?_
    clear E a; intro a E
    refine WL_guard_yes E rfl rfl ?_
    refine S_x (X_pu E S rfl rfl rfl (U_IsSubset h0 h1 (by first | assumption | omega) (by first | assumption | omega)) (Hp.le.refl _) ?_)
    clear E a S; rintro a _ w M_4 hM_4 rfl S E
    replace h0 := h0.le hM_4
    replace h1 := h1.le hM_4
    refine S_v E rfl (R_pickT E rfl rfl) rfl ?_
    clear E a; intro a E
    refine S_v E rfl (R_assign E rfl) rfl ?_
    clear E a; intro a E
    refine WL_nil ?_
    refine T_n ?_
    refine WP_ret ?_
    exact F_ret1 E Tryz.results196 rfl ⟨_, rfl, M_4, (hM_1.trans (hM_2.trans hM_4)), (congrArg Value.bool (by (first | rfl | (simp_all; done) | (rw [decide_eq_false (by omega)]; rfl) | (rw [decide_eq_true (by omega), Bool.true_and])))), S⟩
  · replace E := E.val (t := 9) rfl hc_3
    replace E := E.val (t := 10) rfl hc_3
    replace hc_3 := of_decide_eq_false hc_3
    refine WL_guard_no E rfl rfl rfl rfl fun a E => ?_
    refine WL_guard_no E rfl rfl rfl rfl fun a E => ?_
    refine WL_guard_no E rfl rfl rfl rfl fun a E => ?_
    refine S_v E rfl (R_pickF E rfl rfl) rfl ?_
    clear E a; intro a E
    refine S_v E rfl (R_assign E rfl) rfl ?_
    clear E a; intro a E
    refine WL_nil ?_
    refine T_n ?_
    refine WP_ret ?_
    exact F_ret1 E Tryz.results196 rfl ⟨_, rfl, M_2, (hM_1.trans hM_2), (congrArg Value.bool (by (first | rfl | (simp_all; done) | (rw [decide_eq_false (by omega)]; rfl) | (rw [decide_eq_true (by omega), Bool.true_and])))), S⟩

set_option maxRecDepth 100000 in
set_option maxHeartbeats 4000000 in
theorem S_IsProperSubset {M : Hp} {p0 : Nat} {v0 : Value} {c0 : List Int} (h0 : RdSU 145 M v0 c0) {p1 : Nat} {v1 : Value} {c1 : List Int} (h1 : RdSU 145 M v1 c1) (b0 : c0.length ≤ 1000000000) (b1 : c1.length ≤ 1000000000)  :
    Sp Tryz.prog (.func (.func 173) #[] #[]) M [.pointer (some ⟨p0, 0, none⟩), .iface 114 (.pointer (some ⟨p1, 0, none⟩))] [blk p0 (.cells #[.int .i32 0, .int .u32 0, .int .u32 0, .int .u32 0, .int .i32 0, .int .i32 0, v0] 144), blk p1 (.cells #[.int .i32 0, .int .u32 0, .int .u32 0, .int .u32 0, .int .i32 0, .int .i32 0, v1] 144)] (fun r M' C' => C' = [blk p0 (.cells #[.int .i32 0, .int .u32 0, .int .u32 0, .int .u32 0, .int .i32 0, .int .i32 0, v0] 144), blk p1 (.cells #[.int .i32 0, .int .u32 0, .int .u32 0, .int .u32 0, .int .i32 0, .int .i32 0, v1] 144)] ∧ (r = .bool ((decide (card c0 < card c1)) && sub' c0 c1))) := by
  refine Sp_enter Tryz.func173 rfl Tryz.ntmps173 rfl Tryz.call173 ?_
  intro a w M1 H hM1 S E
  replace S : St w M1 (blk p0 (.cells #[.int .i32 0, .int .u32 0, .int .u32 0, .int .u32 0, .int .i32 0, .int .i32 0, v0] 144) :: blk p1 (.cells #[.int .i32 0, .int .u32 0, .int .u32 0, .int .u32 0, .int .i32 0, .int .i32 0, v1] 144) :: _) := S
  replace h0 := h0.le hM1
  replace h1 := h1.le hM1
  have hset := h0
  obtain ⟨sb0, sm0, sq0, se0, shb0, shm0, shn0, shq0⟩ := hset
  have shq0l : sq0.length ≤ c0.length := nodup_len shn0 fun z hz => (shq0 z).1 hz
  have hset := h1
  obtain ⟨sb1, sm1, sq1, se1, shb1, shm1, shn1, shq1⟩ := hset
  have shq1l : sq1.length ≤ c1.length := nodup_len shn1 fun z hz => (shq1 z).1 hz
  refine WP_seq ?_
  refine WP_region ?_
  refine S_v E rfl (R_assign E rfl) rfl ?_
  clear E a; intro a E
  refine WL_nil ?_
  refine T_n ?_
  refine WP_seq ?_
  refine WP_region ?_
  refine S_v E rfl (R_move E rfl) rfl ?_
  clear E a; intro a E
  refine S_v E rfl (R_assert E rfl Tryz.underlying114 (by intro z hz; cases hz)) rfl ?_
  clear E a; intro a E
  refine S_v E rfl (R_assign E rfl) rfl ?_
  clear E a; intro a E
  refine WL_nil ?_
  refine T_n ?_
  refine WP_seq ?_
  refine WP_region ?_
  refine S_v E rfl (R_move E rfl) rfl ?_
  clear E a; intro a E
  refine S_v E rfl (R_nilCheck E rfl rfl) rfl ?_
  clear E a; intro a E
  refine S_v E rfl (R_fieldAddr E rfl (FA144_0 _)) rfl ?_
  clear E a; intro a E
  replace S : St w M1 (LK p0 144 0 v0 :: _) := S
  refine S_x (X_sp (p := [LK p0 144 0 v0]) E S rfl rfl rfl (rlock_sp Tryz.rwRLib (T := 144) (n := 0) (by decide) (by decide)) (Hp.le.refl _) ?_)
  clear E a S; rintro a _ w M_1 _ hM_1 ⟨rfl, rfl⟩ S E
  replace S : St w M_1 (blk p0 (.cells #[.int .i32 0, .int .u32 0, .int .u32 0, .int .u32 0, .int .i32 1, .int .i32 0, v0] 144) :: blk p1 (.cells #[.int .i32 0, .int .u32 0, .int .u32 0, .int .u32 0, .int .i32 0, .int .i32 0, v1] 144) :: H) := S
  replace h0 := h0.le hM_1
  replace h1 := h1.le hM_1
  replace shb0 := hM_1.2 _ _ shb0
  replace shm0 := shm0.le hM_1
  replace shb1 := hM_1.2 _ _ shb1
  replace shm1 := shm1.le hM_1
  refine WL_nil ?_
  refine T_n ?_
  refine WP_seq ?_
  refine WP_region ?_
  refine S_v E rfl (R_move E rfl) rfl ?_
  clear E a; intro a E
  refine S_v E rfl (R_nilCheck E rfl rfl) rfl ?_
  clear E a; intro a E
  refine S_v E rfl (R_fieldAddr E rfl (FA144_0 _)) rfl ?_
  clear E a; intro a E
  refine S_deferA E rfl rfl ?_
  clear E a; intro a E
  replace E : Env a 32 [⟨.fn (.func 186) #[], #[.pointer (some ⟨p0, 0, none⟩)]⟩] _ := E
  refine WL_nil ?_
  refine T_n ?_
  refine WP_seq ?_
  refine WP_region ?_
  refine S_v E rfl (R_move E rfl) rfl ?_
  clear E a; intro a E
  refine S_v E rfl (R_nilCheck E rfl rfl) rfl ?_
  clear E a; intro a E
  refine S_v E rfl (R_fieldAddr E rfl (FA144_0 _)) rfl ?_
  clear E a; intro a E
  replace S := S.front1
  replace S : St w M_1 (LK p1 144 0 v1 :: _) := S
  refine S_x (X_sp (p := [LK p1 144 0 v1]) E S rfl rfl rfl (rlock_sp Tryz.rwRLib (T := 144) (n := 0) (by decide) (by decide)) (Hp.le.refl _) ?_)
  clear E a S; rintro a _ w M_2 _ hM_2 ⟨rfl, rfl⟩ S E
  replace S : St w M_2 (blk p1 (.cells #[.int .i32 0, .int .u32 0, .int .u32 0, .int .u32 0, .int .i32 1, .int .i32 0, v1] 144) :: blk p0 (.cells #[.int .i32 0, .int .u32 0, .int .u32 0, .int .u32 0, .int .i32 1, .int .i32 0, v0] 144) :: H) := S
  replace h0 := h0.le hM_2
  replace h1 := h1.le hM_2
  replace shb0 := hM_2.2 _ _ shb0
  replace shm0 := shm0.le hM_2
  replace shb1 := hM_2.2 _ _ shb1
  replace shm1 := shm1.le hM_2
  refine WL_nil ?_
  refine T_n ?_
  refine WP_seq ?_
  refine WP_region ?_
  refine S_v E rfl (R_move E rfl) rfl ?_
  clear E a; intro a E
  refine S_v E rfl (R_nilCheck E rfl rfl) rfl ?_
  clear E a; intro a E
  refine S_v E rfl (R_fieldAddr E rfl (FA144_0 _)) rfl ?_
  clear E a; intro a E
  refine S_deferA E rfl rfl ?_
  clear E a; intro a E
  replace E : Env a 32 [⟨.fn (.func 186) #[], #[.pointer (some ⟨p1, 0, none⟩)]⟩, ⟨.fn (.func 186) #[], #[.pointer (some ⟨p0, 0, none⟩)]⟩] _ := E
  refine WL_nil ?_
  refine T_n ?_
  refine WP_seq ?_
  replace S := S.mono_heap (w' := World.drew _) rfl
  refine WP_drawn (C := fun x w => agree M_2 w ∧ (x = 3 → w.heap[p0]? = some (.cells #[.int .i32 0, .int .u32 0, .int .u32 0, .int .u32 0, .int .i32 1, .int .i32 0, v0] 144)) ∧ (x = 7 → w.heap[p1]? = some (.cells #[.int .i32 0, .int .u32 0, .int .u32 0, .int .u32 0, .int .i32 1, .int .i32 0, v1] 144))) (bf := (fun i => bif Nat.beq i 9 then [3, 7] else [])) [0, 1, 2, 3, 4, 5, 6, 7, 8, 10] [0, 1, 2, 3, 4, 5, 6, 7, 8, 9, 10] Tryz.mixed (by kernel_rfl) (fun x hq => ⟨S.imm, fun _ => (S.mem (.tail _ (.head _))), fun _ => (S.mem (.head _))⟩) ?_
  refine D_v E rfl rfl rfl (fun w hC => (R_move E rfl)) ?_
  clear E a; intro a E
  refine D_v E rfl rfl rfl (fun w hC => (R_nilCheck E rfl rfl)) ?_
  clear E a; intro a E
  refine D_v E rfl rfl rfl (fun w hC => (R_fieldAddr E rfl (FA144_1 _))) ?_
  clear E a; intro a E
  refine D_v E rfl rfl rfl (fun w hC => (R_load E rfl (Tryz.isAgg116 _) (cell_blkf (hC.2.1 rfl) rfl))) ?_
  clear E a; intro a E
  refine D_v E rfl rfl rfl (fun w hC => (R_move E rfl)) ?_
  clear E a; intro a E
  refine D_v E rfl rfl rfl (fun w hC => (R_nilCheck E rfl rfl)) ?_
  clear E a; intro a E
  refine D_v E rfl rfl rfl (fun w hC => (R_fieldAddr E rfl (FA144_1 _))) ?_
  clear E a; intro a E
  refine D_v E rfl rfl rfl (fun w hC => (R_load E rfl (Tryz.isAgg116 _) (cell_blkf (hC.2.2 rfl) rfl))) ?_
  clear E a; intro a E
  refine D_v E rfl rfl rfl (fun w hC => (R_ifaceP E rfl Tryz.underlying116)) ?_
  clear E a; intro a E
  refine D_x rfl rfl rfl (X_pu E S rfl rfl rfl (U_IsProperSubset h0 h1 (by first | assumption | omega) (by first | assumption | omega)) (Hp.le.refl _) ?_)
  clear E a S; rintro a _ w M_3 hM_3 rfl S E
  replace h0 := h0.le hM_3
  replace h1 := h1.le hM_3
  replace shb0 := hM_3.2 _ _ shb0
  replace shm0 := shm0.le hM_3
  replace shb1 := hM_3.2 _ _ shb1
  replace shm1 := shm1.le hM_3
  refine ⟨fun x hq hb => ⟨(agree_le hM_3 S.imm), (fun e => by subst e; exact absurd hb (by decide)), (fun e => by subst e; exact absurd hb (by decide))⟩, ?_⟩
  refine D_v E rfl rfl rfl (fun w hC => (R_assign E rfl)) ?_
  clear E a; intro a E
  refine D_end (NoP_n ?_)
  refine T_n ?_
  refine WP_ret ?_
  replace S := S.front1
  refine F_retL1 E Tryz.results173 rfl (fun hres => ?_)
  clear E
  replace S := S.front1
  replace S : St w M_3 (LK p1 144 (0 + 1) v1 :: _) := S
  refine LV_runlock Tryz.rwRLib (n := 0) (by decide) (by decide) S (fun w S => ?_)
  replace S : St w M_3 (blk p1 (.cells #[.int .i32 0, .int .u32 0, .int .u32 0, .int .u32 0, .int .i32 0, .int .i32 0, v1] 144) :: blk p0 (.cells #[.int .i32 0, .int .u32 0, .int .u32 0, .int .u32 0, .int .i32 1, .int .i32 0, v0] 144) :: H) := S
  replace S := S.front1
  replace S : St w M_3 (LK p0 144 (0 + 1) v0 :: _) := S
  refine LV_runlock Tryz.rwRLib (n := 0) (by decide) (by decide) S (fun w S => ?_)
  replace S : St w M_3 (blk p0 (.cells #[.int .i32 0, .int .u32 0, .int .u32 0, .int .u32 0, .int .i32 0, .int .i32 0, v0] 144) :: blk p1 (.cells #[.int .i32 0, .int .u32 0, .int .u32 0, .int .u32 0, .int .i32 0, .int .i32 0, v1] 144) :: H) := S
  replace S := S.front1
  replace S := S.front1
  exact LV_nil (hres _) ⟨_, rfl, M_3, _, (hM_1.trans (hM_2.trans hM_3)), ⟨rfl, rfl⟩, S⟩

set_option maxRecDepth 100000 in
set_option maxHeartbeats 4000000 in
theorem AS_IsProperSubset {M : Hp} {p0 : Nat} {v0 : Value} {c0 : List Int} (h0 : RdSU 145 M v0 c0) (b0 : c0.length ≤ 1000000000)  :
    Sp Tryz.prog (.func (.func 173) #[] #[]) M [.pointer (some ⟨p0, 0, none⟩), .iface 114 (.pointer (some ⟨p0, 0, none⟩))] [blk p0 (.cells #[.int .i32 0, .int .u32 0, .int .u32 0, .int .u32 0, .int .i32 0, .int .i32 0, v0] 144)] (fun r M' C' => C' = [blk p0 (.cells #[.int .i32 0, .int .u32 0, .int .u32 0, .int .u32 0, .int .i32 0, .int .i32 0, v0] 144)] ∧ (r = .bool ((decide (card c0 < card c0)) && sub' c0 c0))) := by
  refine Sp_enter Tryz.func173 rfl Tryz.ntmps173 rfl Tryz.call173 ?_
  intro a w M1 H hM1 S E
  replace S : St w M1 (blk p0 (.cells #[.int .i32 0, .int .u32 0, .int .u32 0, .int .u32 0, .int .i32 0, .int .i32 0, v0] 144) :: _) := S
  replace h0 := h0.le hM1
  have hset := h0
  obtain ⟨sb0, sm0, sq0, se0, shb0, shm0, shn0, shq0⟩ := hset
  have shq0l : sq0.length ≤ c0.length := nodup_len shn0 fun z hz => (shq0 z).1 hz
  refine WP_seq ?_
  refine WP_region ?_
  refine S_v E rfl (R_assign E rfl) rfl ?_
  clear E a; intro a E
  refine WL_nil ?_
  refine T_n ?_
  refine WP_seq ?_
  refine WP_region ?_
  refine S_v E rfl (R_move E rfl) rfl ?_
  clear E a; intro a E
  refine S_v E rfl (R_assert E rfl Tryz.underlying114 (by intro z hz; cases hz)) rfl ?_
  clear E a; intro a E
  refine S_v E rfl (R_assign E rfl) rfl ?_
  clear E a; intro a E
  refine WL_nil ?_
  refine T_n ?_
  refine WP_seq ?_
  refine WP_region ?_
  refine S_v E rfl (R_move E rfl) rfl ?_
  clear E a; intro a E
  refine S_v E rfl (R_nilCheck E rfl rfl) rfl ?_
  clear E a; intro a E
  refine S_v E rfl (R_fieldAddr E rfl (FA144_0 _)) rfl ?_
  clear E a; intro a E
  replace S : St w M1 (LK p0 144 0 v0 :: _) := S
  refine S_x (X_sp (p := [LK p0 144 0 v0]) E S rfl rfl rfl (rlock_sp Tryz.rwRLib (T := 144) (n := 0) (by decide) (by decide)) (Hp.le.refl _) ?_)
  clear E a S; rintro a _ w M_1 _ hM_1 ⟨rfl, rfl⟩ S E
  replace S : St w M_1 (blk p0 (.cells #[.int .i32 0, .int .u32 0, .int .u32 0, .int .u32 0, .int .i32 1, .int .i32 0, v0] 144) :: H) := S
  replace h0 := h0.le hM_1
  replace shb0 := hM_1.2 _ _ shb0
  replace shm0 := shm0.le hM_1
  refine WL_nil ?_
  refine T_n ?_
  refine WP_seq ?_
  refine WP_region ?_
  refine S_v E rfl (R_move E rfl) rfl ?_
  clear E a; intro a E
  refine S_v E rfl (R_nilCheck E rfl rfl) rfl ?_
  clear E a; intro a E
  refine S_v E rfl (R_fieldAddr E rfl (FA144_0 _)) rfl ?_
  clear E a; intro a E
  refine S_deferA E rfl rfl ?_
  clear E a; intro a E
  replace E : Env a 32 [⟨.fn (.func 186) #[], #[.pointer (some ⟨p0, 0, none⟩)]⟩] _ := E
  refine WL_nil ?_
  refine T_n ?_
  refine WP_seq ?_
  refine WP_region ?_
  refine S_v E rfl (R_move E rfl) rfl ?_
  clear E a; intro a E
  refine S_v E rfl (R_nilCheck E rfl rfl) rfl ?_
  clear E a; intro a E
  refine S_v E rfl (R_fieldAddr E rfl (FA144_0 _)) rfl ?_
  clear E a; intro a E
  replace S : St w M_1 (LK p0 144 1 v0 :: _) := S
  refine S_x (X_sp (p := [LK p0 144 1 v0]) E S rfl rfl rfl (rlock_sp Tryz.rwRLib (T := 144) (n := 1) (by decide) (by decide)) (Hp.le.refl _) ?_)
  clear E a S; rintro a _ w M_2 _ hM_2 ⟨rfl, rfl⟩ S E
  replace S : St w M_2 (blk p0 (.cells #[.int .i32 0, .int .u32 0, .int .u32 0, .int .u32 0, .int .i32 2, .int .i32 0, v0] 144) :: H) := S
  replace h0 := h0.le hM_2
  replace shb0 := hM_2.2 _ _ shb0
  replace shm0 := shm0.le hM_2
  refine WL_nil ?_
  refine T_n ?_
  refine WP_seq ?_
  refine WP_region ?_
  refine S_v E rfl (R_move E rfl) rfl ?_
  clear E a; intro a E
  refine S_v E rfl (R_nilCheck E rfl rfl) rfl ?_
  clear E a; intro a E
  refine S_v E rfl (R_fieldAddr E rfl (FA144_0 _)) rfl ?_
  clear E a; intro a E
  refine S_deferA E rfl rfl ?_
  clear E a; intro a E
  replace E : Env a 32 [⟨.fn (.func 186) #[], #[.pointer (some ⟨p0, 0, none⟩)]⟩, ⟨.fn (.func 186) #[], #[.pointer (some ⟨p0, 0, none⟩)]⟩] _ := E
  refine WL_nil ?_
  refine T_n ?_
  refine WP_seq ?_
  replace S := S.mono_heap (w' := World.drew _) rfl
  refine WP_drawn (C := fun x w => agree M_2 w ∧ (x = 3 → w.heap[p0]? = some (.cells #[.int .i32 0, .int .u32 0, .int .u32 0, .int .u32 0, .int .i32 2, .int .i32 0, v0] 144)) ∧ (x = 7 → w.heap[p0]? = some (.cells #[.int .i32 0, .int .u32 0, .int .u32 0, .int .u32 0, .int .i32 2, .int .i32 0, v0] 144))) (bf := (fun i => bif Nat.beq i 9 then [3, 7] else [])) [0, 1, 2, 3, 4, 5, 6, 7, 8, 10] [0, 1, 2, 3, 4, 5, 6, 7, 8, 9, 10] Tryz.mixed (by kernel_rfl) (fun x hq => ⟨S.imm, fun _ => (S.mem (.head _)), fun _ => (S.mem (.head _))⟩) ?_
  refine D_v E rfl rfl rfl (fun w hC => (R_move E rfl)) ?_
  clear E a; intro a E
  refine D_v E rfl rfl rfl (fun w hC => (R_nilCheck E rfl rfl)) ?_
  clear E a; intro a E
  refine D_v E rfl rfl rfl (fun w hC => (R_fieldAddr E rfl (FA144_1 _))) ?_
  clear E a; intro a E
  refine D_v E rfl rfl rfl (fun w hC => (R_load E rfl (Tryz.isAgg116 _) (cell_blkf (hC.2.1 rfl) rfl))) ?_
  clear E a; intro a E
  refine D_v E rfl rfl rfl (fun w hC => (R_move E rfl)) ?_
  clear E a; intro a E
  refine D_v E rfl rfl rfl (fun w hC => (R_nilCheck E rfl rfl)) ?_
  clear E a; intro a E
  refine D_v E rfl rfl rfl (fun w hC => (R_fieldAddr E rfl (FA144_1 _))) ?_
  clear E a; intro a E
  refine D_v E rfl rfl rfl (fun w hC => (R_load E rfl (Tryz.isAgg116 _) (cell_blkf (hC.2.2 rfl) rfl))) ?_
  clear E a; intro a E
  refine D_v E rfl rfl rfl (fun w hC => (R_ifaceP E rfl Tryz.underlying116)) ?_
  clear E a; intro a E
  refine D_x rfl rfl rfl (X_pu E S rfl rfl rfl (U_IsProperSubset h0 h0 (by first | assumption | omega) (by first | assumption | omega)) (Hp.le.refl _) ?_)
  clear E a S; rintro a _ w M_3 hM_3 rfl S E
  replace h0 := h0.le hM_3
  replace shb0 := hM_3.2 _ _ shb0
  replace shm0 := shm0.le hM_3
  refine ⟨fun x hq hb => ⟨(agree_le hM_3 S.imm), (fun e => by subst e; exact absurd hb (by decide)), (fun e => by subst e; exact absurd hb (by decide))⟩, ?_⟩
  refine D_v E rfl rfl rfl (fun w hC => (R_assign E rfl)) ?_
  clear E a; intro a E
  refine D_end (NoP_n ?_)
  refine T_n ?_
  refine WP_ret ?_
  refine F_retL1 E Tryz.results173 rfl (fun hres => ?_)
  clear E
  replace S : St w M_3 (LK p0 144 (1 + 1) v0 :: _) := S
  refine LV_runlock Tryz.rwRLib (n := 1) (by decide) (by decide) S (fun w S => ?_)
  replace S : St w M_3 (blk p0 (.cells #[.int .i32 0, .int .u32 0, .int .u32 0, .int .u32 0, .int .i32 1, .int .i32 0, v0] 144) :: H) := S
  replace S : St w M_3 (LK p0 144 (0 + 1) v0 :: _) := S
  refine LV_runlock Tryz.rwRLib (n := 0) (by decide) (by decide) S (fun w S => ?_)
  replace S : St w M_3 (blk p0 (.cells #[.int .i32 0, .int .u32 0, .int .u32 0, .int .u32 0, .int .i32 0, .int .i32 0, v0] 144) :: H) := S
  exact LV_nil (hres _) ⟨_, rfl, M_3, _, (hM_1.trans (hM_2.trans hM_3)), ⟨rfl, rfl⟩, S⟩

set_option maxRecDepth 100000 in
set_option maxHeartbeats 4000000 in
theorem reg_IsProperSubset {M : Hp} {x0 : Bool} {v : Value} {t : List RG} {i : Nat} {x : RG} {j : Nat} {y : RG} (hx : t[i]? = some x) (hy : t[j]? = some y) (hb : x.2.2.length ≤ 1000000000) (hb2 : y.2.2.length ≤ 1000000000) :
    InvSp Tryz.prog (ifv KS x0 x) "IsProperSubset" M [ifv KS x0 y] [Regs KS x0 v t] (fun r _ C' => ∃ D, C' = Regs KS x0 v t :: D ∧ (r = (.bool ((decide (card x.2.2 < card y.2.2)) && sub' x.2.2 y.2.2)) ∧ D = [])) := by
  refine reg_look2 hx hy (fun M' hM hr hs => ?_) (fun e M' hM hr => ?_)
  · cases x0
    · exact lookU (F := [lkI KS false x, lkI KS false y]) (InvSp.of_pu (fun w => meth_116_IsProperSubset _ w) Tryz.call196 (U_IsProperSubset hr hs hb hb2)) fun r M2 C h => h
    · exact (InvSp.of_sp (fun w => meth_114_IsProperSubset _ w) Tryz.call173 (S_IsProperSubset hr hs hb hb2)).mono fun r M2 C ⟨h1, h2⟩ => ⟨[], h1, h2, rfl⟩
  · subst e
    cases x0
    · exact lookU (F := [lkI KS false y]) (InvSp.of_pu (fun w => meth_116_IsProperSubset _ w) Tryz.call196 (U_IsProperSubset hr hr hb hb)) fun r M2 C h => h
    · exact (InvSp.of_sp (fun w => meth_114_IsProperSubset _ w) Tryz.call173 (AS_IsProperSubset hr hb)).mono fun r M2 C ⟨h1, h2⟩ => ⟨[], h1, h2, rfl⟩

set_option maxRecDepth 100000 in
set_option maxHeartbeats 4000000 in
theorem U_IsSuperset {M : Hp} {v0 : Value} {c0 : List Int} (h0 : RdSU 145 M v0 c0) {v1 : Value} {c1 : List Int} (h1 : RdSU 145 M v1 c1) (b0 : c0.length ≤ 1000000000) (b1 : c1.length ≤ 1000000000)  :
    Pu Tryz.prog (.func (.func 211) #[] #[]) M [v0, .iface 116 v1] (fun r M' => r = .bool (sub' c1 c0)) := by
  refine Pu_enter Tryz.func211 rfl Tryz.ntmps211 rfl Tryz.call211 ?_
  intro a w M1 H hM1 S E
  replace h0 := h0.le hM1
  replace h1 := h1.le hM1
  have hcl0 := card_le c0
  have hcl1 := card_le c1
  refine WP_seq ?_
  refine WP_region ?_
  refine S_v E rfl (R_assign E rfl) rfl ?_
  clear E a; intro a E
  refine WL_nil ?_
  refine T_n ?_
  refine WP_seq ?_
  refine WP_region ?_
  refine S_v E rfl (R_move E rfl) rfl ?_
  clear E a; intro a E
  refine S_v E rfl (R_move E rfl) rfl ?_
  clear E a; intro a E
  refine S_v E rfl (R_ifaceP E rfl Tryz.underlying116) rfl ?_
  clear E a; intro a E
  refine S_x (X_puI E S rfl rfl rfl (meth_116_IsSubset _ _) Tryz.call197 (U_IsSubset h1 h0 (by first | assumption | omega) (by first | assumption | omega)) (Hp.le.refl _) ?_)
  clear E a S; rintro a _ w M_1 hM_1 rfl S E
  replace h0 := h0.le hM_1
  replace h1 := h1.le hM_1
  refine S_v E rfl (R_assign E rfl) rfl ?_
  clear E a; intro a E
  refine WL_nil ?_
  refine T_n ?_
  refine WP_ret ?_
  exact F_ret1 E Tryz.results211 rfl ⟨_, rfl, M_1, hM_1, rfl, S⟩

set_option maxRecDepth 100000 in
set_option maxHeartbeats 4000000 in
theorem S_IsSuperset {M : Hp} {p0 : Nat} {v0 : Value} {c0 : List Int} (h0 : RdSU 145 M v0 c0) {p1 : Nat} {v1 : Value} {c1 : List Int} (h1 : RdSU 145 M v1 c1) (b0 : c0.length ≤ 1000000000) (b1 : c1.length ≤ 1000000000)  :
    Sp Tryz.prog (.func (.func 176) #[] #[]) M [.pointer (some ⟨p0, 0, none⟩), .iface 114 (.pointer (some ⟨p1, 0, none⟩))] [blk p0 (.cells #[.int .i32 0, .int .u32 0, .int .u32 0, .int .u32 0, .int .i32 0, .int .i32 0, v0] 144), blk p1 (.cells #[.int .i32 0, .int .u32 0, .int .u32 0, .int .u32 0, .int .i32 0, .int .i32 0, v1] 144)] (fun r M' C' => C' = [blk p0 (.cells #[.int .i32 0, .int .u32 0, .int .u32 0, .int .u32 0, .int .i32 0, .int .i32 0, v0] 144), blk p1 (.cells #[.int .i32 0, .int .u32 0, .int .u32 0, .int .u32 0, .int .i32 0, .int .i32 0, v1] 144)] ∧ (r = .bool (sub' c1 c0))) := by
  refine Sp_enter Tryz.func176 rfl Tryz.ntmps176 rfl Tryz.call176 ?_
  intro a w M1 H hM1 S E
  replace S : St w M1 (blk p0 (.cells #[.int .i32 0, .int .u32 0, .int .u32 0, .int .u32 0, .int .i32 0, .int .i32 0, v0] 144) :: blk p1 (.cells #[.int .i32 0, .int .u32 0, .int .u32 0, .int .u32 0, .int .i32 0, .int .i32 0, v1] 144) :: _) := S
  replace h0 := h0.le hM1
  replace h1 := h1.le hM1
  have hset := h0
  obtain ⟨sb0, sm0, sq0, se0, shb0, shm0, shn0, shq0⟩ := hset
  have shq0l : sq0.length ≤ c0.length := nodup_len shn0 fun z hz => (shq0 z).1 hz
  have hset := h1
  obtain ⟨sb1, sm1, sq1, se1, shb1, shm1, shn1, shq1⟩ := hset
  have shq1l : sq1.length ≤ c1.length := nodup_len shn1 fun z hz => (shq1 z).1 hz
  refine WP_seq ?_
  refine WP_region ?_
  refine S_v E rfl (R_assign E rfl) rfl ?_
  clear E a; intro a E
  refine WL_nil ?_
  refine T_n ?_
  refine WP_seq ?_
  refine WP_region ?_
  refine S_v E rfl (R_move E rfl) rfl ?_
  clear E a; intro a E
  refine S_v E rfl (R_move E rfl) rfl ?_
  clear E a; intro a E
  refine S_v E rfl (R_ifaceP E rfl Tryz.underlying114) rfl ?_
  clear E a; intro a E
  replace S := S.front1
  refine S_x (X_spI (p := [blk p1 (.cells #[.int .i32 0, .int .u32 0, .int .u32 0, .int .u32 0, .int .i32 0, .int .i32 0, v1] 144), blk p0 (.cells #[.int .i32 0, .int .u32 0, .int .u32 0, .int .u32 0, .int .i32 0, .int .i32 0, v0] 144)]) E S rfl rfl rfl (meth_114_IsSubset _ _) Tryz.call175 (S_IsSubset h1 h0 (by first | assumption | omega) (by first | assumption | omega)) (Hp.le.refl _) ?_)
  clear E a S; rintro a _ w M_1 _ hM_1 ⟨rfl, rfl⟩ S E
  replace S : St w M_1 (blk p1 (.cells #[.int .i32 0, .int .u32 0, .int .u32 0, .int .u32 0, .int .i32 0, .int .i32 0, v1] 144) :: blk p0 (.cells #[.int .i32 0, .int .u32 0, .int .u32 0, .int .u32 0, .int .i32 0, .int .i32 0, v0] 144) :: H) := S
  replace h0 := h0.le hM_1
  replace h1 := h1.le hM_1
  replace shb0 := hM_1.2 _ _ shb0
  replace shm0 := shm0.le hM_1
  replace shb1 := hM_1.2 _ _ shb1
  replace shm1 := shm1.le hM_1
  refine S_v E rfl (R_assign E rfl) rfl ?_
  clear E a; intro a E
  refine WL_nil ?_
  refine T_n ?_
  refine WP_ret ?_
  replace S := S.front1
  exact F_ret1 E Tryz.results176 rfl ⟨_, rfl, M_1, _, hM_1, ⟨rfl, rfl⟩, S⟩

set_option maxRecDepth 100000 in
set_option maxHeartbeats 4000000 in
theorem AS_IsSuperset {M : Hp} {p0 : Nat} {v0 : Value} {c0 : List Int} (h0 : RdSU 145 M v0 c0) (b0 : c0.length ≤ 1000000000)  :
    Sp Tryz.prog (.func (.func 176) #[] #[]) M [.pointer (some ⟨p0, 0, none⟩), .iface 114 (.pointer (some ⟨p0, 0, none⟩))] [blk p0 (.cells #[.int .i32 0, .int .u32 0, .int .u32 0, .int .u32 0, .int .i32 0, .int .i32 0, v0] 144)] (fun r M' C' => C' = [blk p0 (.cells #[.int .i32 0, .int .u32 0, .int .u32 0, .int .u32 0, .int .i32 0, .int .i32 0, v0] 144)] ∧ (r = .bool (sub' c0 c0))) := by
  refine Sp_enter Tryz.func176 rfl Tryz.ntmps176 rfl Tryz.call176 ?_
  intro a w M1 H hM1 S E
  replace S : St w M1 (blk p0 (.cells #[.int .i32 0, .int .u32 0, .int .u32 0, .int .u32 0, .int .i32 0, .int .i32 0, v0] 144) :: _) := S
  replace h0 := h0.le hM1
  have hset := h0
  obtain ⟨sb0, sm0, sq0, se0, shb0, shm0, shn0, shq0⟩ := hset
  have shq0l : sq0.length ≤ c0.length := nodup_len shn0 fun z hz => (shq0 z).1 hz
  refine WP_seq ?_
  refine WP_region ?_
  refine S_v E rfl (R_assign E rfl) rfl ?_
  clear E a; intro a E
  refine WL_nil ?_
  refine T_n ?_
  refine WP_seq ?_
  refine WP_region ?_
  refine S_v E rfl (R_move E rfl) rfl ?_
  clear E a; intro a E
  refine S_v E rfl (R_move E rfl) rfl ?_
  clear E a; intro a E
  refine S_v E rfl (R_ifaceP E rfl Tryz.underlying114) rfl ?_
  clear E a; intro a E
  refine S_x (X_spI (p := [blk p0 (.cells #[.int .i32 0, .int .u32 0, .int .u32 0, .int .u32 0, .int .i32 0, .int .i32 0, v0] 144)]) E S rfl rfl rfl (meth_114_IsSubset _ _) Tryz.call175 (AS_IsSubset h0 (by first | assumption | omega)) (Hp.le.refl _) ?_)
  clear E a S; rintro a _ w M_1 _ hM_1 ⟨rfl, rfl⟩ S E
  replace S : St w M_1 (blk p0 (.cells #[.int .i32 0, .int .u32 0, .int .u32 0, .int .u32 0, .int .i32 0, .int .i32 0, v0] 144) :: H) := S
  replace h0 := h0.le hM_1
  replace shb0 := hM_1.2 _ _ shb0
  replace shm0 := shm0.le hM_1
  refine S_v E rfl (R_assign E rfl) rfl ?_
  clear E a; intro a E
  refine WL_nil ?_
  refine T_n ?_
  refine WP_ret ?_
  exact F_ret1 E Tryz.results176 rfl ⟨_, rfl, M_1, _, hM_1, ⟨rfl, rfl⟩, S⟩

set_option maxRecDepth 100000 in
set_option maxHeartbeats 4000000 in
theorem reg_IsSuperset {M : Hp} {x0 : Bool} {v : Value} {t : List RG} {i : Nat} {x : RG} {j : Nat} {y : RG} (hx : t[i]? = some x) (hy : t[j]? = some y) (hb : x.2.2.length ≤ 1000000000) (hb2 : y.2.2.length ≤ 1000000000) :
    InvSp Tryz.prog (ifv KS x0 x) "IsSuperset" M [ifv KS x0 y] [Regs KS x0 v t] (fun r _ C' => ∃ D, C' = Regs KS x0 v t :: D ∧ (r = (.bool (sub' y.2.2 x.2.2)) ∧ D = [])) := by
  refine reg_look2 hx hy (fun M' hM hr hs => ?_) (fun e M' hM hr => ?_)
  · cases x0
    · exact lookU (F := [lkI KS false x, lkI KS false y]) (InvSp.of_pu (fun w => meth_116_IsSuperset _ w) Tryz.call211 (U_IsSuperset hr hs hb hb2)) fun r M2 C h => h
    · exact (InvSp.of_sp (fun w => meth_114_IsSuperset _ w) Tryz.call176 (S_IsSuperset hr hs hb hb2)).mono fun r M2 C ⟨h1, h2⟩ => ⟨[], h1, h2, rfl⟩
  · subst e
    cases x0
    · exact lookU (F := [lkI KS false y]) (InvSp.of_pu (fun w => meth_116_IsSuperset _ w) Tryz.call211 (U_IsSuperset hr hr hb hb)) fun r M2 C h => h
    · exact (InvSp.of_sp (fun w => meth_114_IsSuperset _ w) Tryz.call176 (AS_IsSuperset hr hb)).mono fun r M2 C ⟨h1, h2⟩ => ⟨[], h1, h2, rfl⟩

set_option maxRecDepth 100000 in
set_option maxHeartbeats 4000000 in
theorem U_IsProperSuperset {M : Hp} {v0 : Value} {c0 : List Int} (h0 : RdSU 145 M v0 c0) {v1 : Value} {c1 : List Int} (h1 : RdSU 145 M v1 c1) (b0 : c0.length ≤ 1000000000) (b1 : c1.length ≤ 1000000000)  :
    Pu Tryz.prog (.func (.func 210) #[] #[]) M [v0, .iface 116 v1] (fun r M' => r = .bool ((decide (card c1 < card c0)) && sub' c1 c0)) := by
  refine Pu_enter Tryz.func210 rfl Tryz.ntmps210 rfl Tryz.call210 ?_
  intro a w M1 H hM1 S E
  replace h0 := h0.le hM1
  replace h1 := h1.le hM1
  have hcl0 := card_le c0
  have hcl1 := card_le c1
  refine WP_seq ?_
  refine WP_region ?_
  refine S_v E rfl (R_assign E rfl) rfl ?_
  clear E a; intro a E
  refine WL_nil ?_
  refine T_n ?_
  refine WP_seq ?_
  refine WP_region ?_
  refine S_v E rfl (R_move E rfl) rfl ?_
  clear E a; intro a E
  refine S_x (X_pu E S rfl rfl rfl (U_Cardinality h0 (by first | assumption | omega)) (Hp.le.refl _) ?_)
  clear E a S; rintro a _ w M_1 hM_1 rfl S E
  replace h0 := h0.le hM_1
  replace h1 := h1.le hM_1
  refine S_v E rfl (R_move E rfl) rfl ?_
  clear E a; intro a E
  refine S_x (X_puI E S rfl rfl rfl (meth_116_Cardinality _ _) Tryz.call205 (U_Cardinality h1 (by first | assumption | omega)) (Hp.le.refl _) ?_)
  clear E a S; rintro a _ w M_2 hM_2 rfl S E
  replace h0 := h0.le hM_2
  replace h1 := h1.le hM_2
  refine S_v E rfl (R_gtr E rfl rfl) rfl ?_
  clear E a; intro a E
  refine S_v E rfl (R_move E rfl) rfl ?_
  clear E a; intro a E
  refine split_bool (decide (((card c1 : Nat) : Int) < ((card c0 : Nat) : Int))) (fun hc_3 => ?_) (fun hc_3 => ?_)
  · replace E := E.val (t := 9) rfl hc_3
    replace E := E.val (t := 10) rfl hc_3
    replace hc_3 := of_decide_eq_true hc_3
    refine WL_guard_yes E rfl rfl ?_
    refine S_v E rfl (R_move E rfl) rfl ?_
    clear E a; intro a E
    refine WL_guard_yes E rfl rfl ?_
    refine S_v E rfl (R_move E rfl) rfl ?_
    clear E a; intro a E
    refine WL_guard_yes E rfl rfl ?_
    refine S_x (X_pu E S rfl rfl rfl (U_IsSuperset h0 h1 (by first | assumption | omega) (by first | assumption | omega)) (Hp.le.refl _) ?_)
    clear E a S; rintro a _ w M_4 hM_4 rfl S E
    replace h0 := h0.le hM_4
    replace h1 := h1.le hM_4
    refine S_v E rfl (R_pickT E rfl rfl) rfl ?_
    clear E a; intro a E
    refine S_v E rfl (R_assign E rfl) rfl ?_
    clear E a; intro a E
    refine WL_nil ?_
    refine T_n ?_
    refine WP_ret ?_
    exact F_ret1 E Tryz.results210 rfl ⟨_, rfl, M_4, (hM_1.trans (hM_2.trans hM_4)), (congrArg Value.bool (by (first | rfl | (simp_all; done) | (rw [decide_eq_false (by omega)]; rfl) | (rw [decide_eq_true (by omega), Bool.true_and])))), S⟩
  · replace E := E.val (t := 9) rfl hc_3
    replace E := E.val (t := 10) rfl hc_3
    replace hc_3 := of_decide_eq_false hc_3
    refine WL_guard_no E rfl rfl rfl rfl fun a E => ?_
    refine WL_guard_no E rfl rfl rfl rfl fun a E => ?_
    refine WL_guard_no E rfl rfl rfl rfl fun a E => ?_
    refine S_v E rfl (R_pickF E rfl rfl) rfl ?_
    clear E a; intro a E
    refine S_v E rfl (R_assign E rfl) rfl ?_
    clear E a; intro a E
    refine WL_nil ?_
    refine T_n ?_
    refine WP_ret ?_
    exact F_ret1 E Tryz.results210 rfl ⟨_, rfl, M_2, (hM_1.trans hM_2), (congrArg Value.bool (by (first | rfl | (simp_all; done) | (rw [decide_eq_false (by omega)]; rfl) | (rw [decide_eq_true (by omega), Bool.true_and])))), S⟩

set_option maxRecDepth 100000 in
set_option maxHeartbeats 4000000 in
theorem S_IsProperSuperset {M : Hp} {p0 : Nat} {v0 : Value} {c0 : List Int} (h0 : RdSU 145 M v0 c0) {p1 : Nat} {v1 : Value} {c1 : List Int} (h1 : RdSU 145 M v1 c1) (b0 : c0.length ≤ 1000000000) (b1 : c1.length ≤ 1000000000)  :
    Sp Tryz.prog (.func (.func 174) #[] #[]) M [.pointer (some ⟨p0, 0, none⟩), .iface 114 (.pointer (some ⟨p1, 0, none⟩))] [blk p0 (.cells #[.int .i32 0, .int .u32 0, .int .u32 0, .int .u32 0, .int .i32 0, .int .i32 0, v0] 144), blk p1 (.cells #[.int .i32 0, .int .u32 0, .int .u32 0, .int .u32 0, .int .i32 0, .int .i32 0, v1] 144)] (fun r M' C' => C' = [blk p0 (.cells #[.int .i32 0, .int .u32 0, .int .u32 0, .int .u32 0, .int .i32 0, .int .i32 0, v0] 144), blk p1 (.cells #[.int .i32 0, .int .u32 0, .int .u32 0, .int .u32 0, .int .i32 0, .int .i32 0, v1] 144)] ∧ (r = .bool ((decide (card c1 < card c0)) && sub' c1 c0))) := by
  refine Sp_enter Tryz.func174 rfl Tryz.ntmps174 rfl Tryz.call174 ?_
  intro a w M1 H hM1 S E
  replace S : St w M1 (blk p0 (.cells #[.int .i32 0, .int .u32 0, .int .u32 0, .int .u32 0, .int .i32 0, .int .i32 0, v0] 144) :: blk p1 (.cells #[.int .i32 0, .int .u32 0, .int .u32 0, .int .u32 0, .int .i32 0, .int .i32 0, v1] 144) :: _) := S
  replace h0 := h0.le hM1
  replace h1 := h1.le hM1
  have hset := h0
  obtain ⟨sb0, sm0, sq0, se0, shb0, shm0, shn0, shq0⟩ := hset
  have shq0l : sq0.length ≤ c0.length := nodup_len shn0 fun z hz => (shq0 z).1 hz
  have hset := h1
  obtain ⟨sb1, sm1, sq1, se1, shb1, shm1, shn1, shq1⟩ := hset
  have shq1l : sq1.length ≤ c1.length := nodup_len shn1 fun z hz => (shq1 z).1 hz
  refine WP_seq ?_
  refine WP_region ?_
  refine S_v E rfl (R_assign E rfl) rfl ?_
  clear E a; intro a E
  refine WL_nil ?_
  refine T_n ?_
  refine WP_seq ?_
  refine WP_region ?_
  refine S_v E rfl (R_move E rfl) rfl ?_
  clear E a; intro a E
  refine S_v E rfl (R_move E rfl) rfl ?_
  clear E a; intro a E
  refine S_v E rfl (R_ifaceP E rfl Tryz.underlying114) rfl ?_
  clear E a; intro a E
  replace S := S.front1
  refine S_x (X_spI (p := [blk p1 (.cells #[.int .i32 0, .int .u32 0, .int .u32 0, .int .u32 0, .int .i32 0, .int .i32 0, v1] 144), blk p0 (.cells #[.int .i32 0, .int .u32 0, .int .u32 0, .int .u32 0, .int .i32 0, .int .i32 0, v0] 144)]) E S rfl rfl rfl (meth_114_IsProperSubset _ _) Tryz.call173 (S_IsProperSubset h1 h0 (by first | assumption | omega) (by first | assumption | omega)) (Hp.le.refl _) ?_)
  clear E a S; rintro a _ w M_1 _ hM_1 ⟨rfl, rfl⟩ S E
  replace S : St w M_1 (blk p1 (.cells #[.int .i32 0, .int .u32 0, .int .u32 0, .int .u32 0, .int .i32 0, .int .i32 0, v1] 144) :: blk p0 (.cells #[.int .i32 0, .int .u32 0, .int .u32 0, .int .u32 0, .int .i32 0, .int .i32 0, v0] 144) :: H) := S
  replace h0 := h0.le hM_1
  replace h1 := h1.le hM_1
  replace shb0 := hM_1.2 _ _ shb0
  replace shm0 := shm0.le hM_1
  replace shb1 := hM_1.2 _ _ shb1
  replace shm1 := shm1.le hM_1
  refine S_v E rfl (R_assign E rfl) rfl ?_
  clear E a; intro a E
  refine WL_nil ?_
  refine T_n ?_
  refine WP_ret ?_
  replace S := S.front1
  exact F_ret1 E Tryz.results174 rfl ⟨_, rfl, M_1, _, hM_1, ⟨rfl, rfl⟩, S⟩

set_option maxRecDepth 100000 in
set_option maxHeartbeats 4000000 in
theorem AS_IsProperSuperset {M : Hp} {p0 : Nat} {v0 : Value} {c0 : List Int} (h0 : RdSU 145 M v0 c0) (b0 : c0.length ≤ 1000000000)  :
    Sp Tryz.prog (.func (.func 174) #[] #[]) M [.pointer (some ⟨p0, 0, none⟩), .iface 114 (.pointer (some ⟨p0, 0, none⟩))] [blk p0 (.cells #[.int .i32 0, .int .u32 0, .int .u32 0, .int .u32 0, .int .i32 0, .int .i32 0, v0] 144)] (fun r M' C' => C' = [blk p0 (.cells #[.int .i32 0, .int .u32 0, .int .u32 0, .int .u32 0, .int .i32 0, .int .i32 0, v0] 144)] ∧ (r = .bool ((decide (card c0 < card c0)) && sub' c0 c0))) := by
  refine Sp_enter Tryz.func174 rfl Tryz.ntmps174 rfl Tryz.call174 ?_
  intro a w M1 H hM1 S E
  replace S : St w M1 (blk p0 (.cells #[.int .i32 0, .int .u32 0, .int .u32 0, .int .u32 0, .int .i32 0, .int .i32 0, v0] 144) :: _) := S
  replace h0 := h0.le hM1
  have hset := h0
  obtain ⟨sb0, sm0, sq0, se0, shb0, shm0, shn0, shq0⟩ := hset
  have shq0l : sq0.length ≤ c0.length := nodup_len shn0 fun z hz => (shq0 z).1 hz
  refine WP_seq ?_
  refine WP_region ?_
  refine S_v E rfl (R_assign E rfl) rfl ?_
  clear E a; intro a E
  refine WL_nil ?_
  refine T_n ?_
  refine WP_seq ?_
  refine WP_region ?_
  refine S_v E rfl (R_move E rfl) rfl ?_
  clear E a; intro a E
  refine S_v E rfl (R_move E rfl) rfl ?_
  clear E a; intro a E
  refine S_v E rfl (R_ifaceP E rfl Tryz.underlying114) rfl ?_
  clear E a; intro a E
  refine S_x (X_spI (p := [blk p0 (.cells #[.int .i32 0, .int .u32 0, .int .u32 0, .int .u32 0, .int .i32 0, .int .i32 0, v0] 144)]) E S rfl rfl rfl (meth_114_IsProperSubset _ _) Tryz.call173 (AS_IsProperSubset h0 (by first | assumption | omega)) (Hp.le.refl _) ?_)
  clear E a S; rintro a _ w M_1 _ hM_1 ⟨rfl, rfl⟩ S E
  replace S : St w M_1 (blk p0 (.cells #[.int .i32 0, .int .u32 0, .int .u32 0, .int .u32 0, .int .i32 0, .int .i32 0, v0] 144) :: H) := S
  replace h0 := h0.le hM_1
  replace shb0 := hM_1.2 _ _ shb0
  replace shm0 := shm0.le hM_1
  refine S_v E rfl (R_assign E rfl) rfl ?_
  clear E a; intro a E
  refine WL_nil ?_
  refine T_n ?_
  refine WP_ret ?_
  exact F_ret1 E Tryz.results174 rfl ⟨_, rfl, M_1, _, hM_1, ⟨rfl, rfl⟩, S⟩

set_option maxRecDepth 100000 in
set_option maxHeartbeats 4000000 in
theorem reg_IsProperSuperset {M : Hp} {x0 : Bool} {v : Value} {t : List RG} {i : Nat} {x : RG} {j : Nat} {y : RG} (hx : t[i]? = some x) (hy : t[j]? = some y) (hb : x.2.2.length ≤ 1000000000) (hb2 : y.2.2.length ≤ 1000000000) :
    InvSp Tryz.prog (ifv KS x0 x) "IsProperSuperset" M [ifv KS x0 y] [Regs KS x0 v t] (fun r _ C' => ∃ D, C' = Regs KS x0 v t :: D ∧ (r = (.bool ((decide (card y.2.2 < card x.2.2)) && sub' y.2.2 x.2.2)) ∧ D = [])) := by
  refine reg_look2 hx hy (fun M' hM hr hs => ?_) (fun e M' hM hr => ?_)
  · cases x0
    · exact lookU (F := [lkI KS false x, lkI KS false y]) (InvSp.of_pu (fun w => meth_116_IsProperSuperset _ w) Tryz.call210 (U_IsProperSuperset hr hs hb hb2)) fun r M2 C h => h
    · exact (InvSp.of_sp (fun w => meth_114_IsProperSuperset _ w) Tryz.call174 (S_IsProperSuperset hr hs hb hb2)).mono fun r M2 C ⟨h1, h2⟩ => ⟨[], h1, h2, rfl⟩
  · subst e
    cases x0
    · exact lookU (F := [lkI KS false y]) (InvSp.of_pu (fun w => meth_116_IsProperSuperset _ w) Tryz.call210 (U_IsProperSuperset hr hr hb hb)) fun r M2 C h => h
    · exact (InvSp.of_sp (fun w => meth_114_IsProperSuperset _ w) Tryz.call174 (AS_IsProperSuperset hr hb)).mono fun r M2 C ⟨h1, h2⟩ => ⟨[], h1, h2, rfl⟩

set_option maxRecDepth 100000 in
set_option maxHeartbeats 4000000 in
theorem U_ContainsAnyElement {M : Hp} {v0 : Value} {c0 : List Int} (h0 : RdSU 145 M v0 c0) {v1 : Value} {c1 : List Int} (h1 : RdSU 145 M v1 c1) (b0 : c0.length ≤ 1000000000) (b1 : c1.length ≤ 1000000000)  :
    Pu Tryz.prog (.func (.func 191) #[] #[]) M [v0, .iface 116 v1] (fun r M' => r = .bool (any' c0 c1)) := by
  refine Pu_enter Tryz.func191 rfl Tryz.ntmps191 rfl Tryz.call191 ?_
  intro a w M1 H hM1 S E
  replace h0 := h0.le hM1
  replace h1 := h1.le hM1
  have hcl0 := card_le c0
  have hcl1 := card_le c1
  refine WP_seq ?_
  refine WP_region ?_
  refine S_v E rfl (R_assign E rfl) rfl ?_
  clear E a; intro a E
  refine WL_nil ?_
  refine T_n ?_
  refine WP_seq ?_
  refine WP_region ?_
  refine S_v E rfl (R_move E rfl) rfl ?_
  clear E a; intro a E
  refine S_v E rfl (R_assert E rfl Tryz.underlying116 (by intro z hz; cases hz)) rfl ?_
  clear E a; intro a E
  refine S_v E rfl (R_assign E rfl) rfl ?_
  clear E a; intro a E
  refine WL_nil ?_
  refine T_n ?_
  refine WP_seq ?_
  refine WP_seq ?_
  refine WP_region ?_
  refine S_v E rfl (R_move E rfl) rfl ?_
  clear E a; intro a E
  refine S_x (X_pu E S rfl rfl rfl (U_Cardinality h0 (by first | assumption | omega)) (Hp.le.refl _) ?_)
  clear E a S; rintro a _ w M_1 hM_1 rfl S E
  replace h0 := h0.le hM_1
  replace h1 := h1.le hM_1
  refine S_v E rfl (R_move E rfl) rfl ?_
  clear E a; intro a E
  refine S_x (X_puI E S rfl rfl rfl (meth_116_Cardinality _ _) Tryz.call205 (U_Cardinality h1 (by first | assumption | omega)) (Hp.le.refl _) ?_)
  clear E a S; rintro a _ w M_2 hM_2 rfl S E
  replace h0 := h0.le hM_2
  replace h1 := h1.le hM_2
  refine S_v E rfl (R_lss E rfl rfl) rfl ?_
  clear E a; intro a E
  refine WL_nil ?_
  refine T_n ?_
  refine WP_cond E rfl (fun hc_3 => ?_) (fun hc_3 => ?_)
  · replace hc_3 := of_decide_eq_true hc_3
    refine WP_seq ?_
    refine WP_region ?_
    refine S_v E rfl (R_move E rfl) rfl ?_
    clear E a; intro a E
    have hset := h0
    obtain ⟨sb0, sm0, sq0, se0, shb0, shm0, shn0, shq0⟩ := hset
    have shq0l : sq0.length ≤ c0.length := nodup_len shn0 fun z hz => (shq0 z).1 hz
    refine S_v E rfl (R_nilCheck E rfl se0) rfl ?_
    clear E a; intro a E
    refine S_v E rfl (R_loadM E (congrArg some se0) Tryz.isAgg145 S.imm (cellM_box shb0)) rfl ?_
    clear E a; intro a E
    refine S_x (X_range E S rfl MT145 shm0 rfl ?_)
    clear E a S; rintro a w i_4 es_5 ck_6 E hf_7 S
    replace S : St w M_2 (ItO sm0 es_5 ck_6 i_4 (Sl.encS ([] : List Int)) :: _) := S
    refine WL_nil ?_
    refine T_n ?_
    refine WP_block ?_
    replace S := S.reIt (p' := (Sl.encS [])) (congrArg Sl.encS (show ([] : List Int) = [] by (first | rfl | (simp [addsL_snoc]; done) | (simp [addsL_snoc, List.filter_append, *]; done))))
    refine WP_loop (γ := List Int) (fun (p : List Int) a w => ∃ (M_8 : Hp), Hp.le M_2 M_8 ∧ St w M_8 (ItO sm0 es_5 ck_6 i_4 (Sl.encS p) :: H) ∧ Env a 37 [] [(5, v1), (18, .pointer (some ⟨i_4, 0, none⟩))] ∧ (p.Nodup) ∧ (∀ z ∈ p, z ∈ sq0) ∧ (p.length ≤ sq0.length) ∧ (∀ z ∈ p, z ∉ c1)) (fun p => sq0.length - p.length) [] ⟨M_2, Hp.le.refl _, S, E.keep ⟨rfl, rfl, trivial⟩, (by simp), (by simp), (by simp), (by simp)⟩ ?_
    try clear E
    try clear S
    try clear a
    try clear w
    rintro p a w ⟨M_8, hM_8, S, E, hL0_0, hL0_1, hL0_2, hL0_3⟩
    replace h0 := h0.le hM_8
    replace h1 := h1.le hM_8
    replace shb0 := hM_8.2 _ _ shb0
    replace shm0 := shm0.le hM_8
    replace hf_7 := hf_7.le hM_8
    refine WP_seq ?_
    refine WP_region ?_
    refine S_x (X_nextS E S rfl hf_7 rfl (by assumption) (by assumption) ?_ ?_)
    · clear E a S; rintro a E hpm_9 S
      refine S_v E rfl (R_extract E rfl rfl) rfl ?_
      clear E a; intro a E
      refine WL_nil ?_
      refine T_n ?_
      refine WP_seq ?_
      refine WP_condF E rfl rfl ?_
      refine WP_exit ?_
      refine T_x ?_
      refine T_x ?_
      refine B_x ?_
      refine T_n ?_
      refine WP_seq ?_
      refine WP_region ?_
      refine S_v E rfl (R_assign E rfl) rfl ?_
      clear E a; intro a E
      refine WL_nil ?_
      refine T_n ?_
      refine WP_ret ?_
      exact F_ret1 E Tryz.results191 rfl ⟨_, rfl, M_8, (hM_1.trans (hM_2.trans hM_8)), (congrArg Value.bool (by (first | exact (any_f (by first | assumption | exact List.Perm.symm (by assumption)) shq0 (by assumption)).symm | exact ((any_comm c0 c1).trans (any_f (by first | assumption | exact List.Perm.symm (by assumption)) shq1 (by assumption))).symm | exact (any_t (k := _) (by assumption) shq0 (by simp_all)).symm | exact ((any_comm c0 c1).trans (any_t (k := _) (by assumption) shq1 (by simp_all))).symm))), S.drop⟩
    · clear E a S w; rintro a w k_10 E hk_11 hk_11n hk_11l S
      refine S_v E rfl (R_extract E rfl rfl) rfl ?_
      clear E a; intro a E
      refine WL_nil ?_
      refine T_n ?_
      refine WP_seq ?_
      refine WP_condT E rfl rfl ?_
      refine WP_skip ?_
      refine T_n ?_
      refine WP_block ?_
      refine WP_seq ?_
      refine WP_region ?_
      refine S_v E rfl (R_entry (k := k_10) (v := .agg #[]) E (by have S1 := S; simp only [Sl.encS, List.map_append, List.map_cons, List.map_nil] at S1; exact S1) hf_7 rfl) rfl ?_
      clear E a; intro a E
      refine S_v E rfl (R_extract E rfl rfl) rfl ?_
      clear E a; intro a E
      refine S_v E rfl (R_assign E rfl) rfl ?_
      clear E a; intro a E
      refine WL_nil ?_
      refine T_n ?_
      refine WP_seq ?_
      refine WP_region ?_
      refine S_v E rfl (R_move E rfl) rfl ?_
      clear E a; intro a E
      refine S_v E rfl (R_move E rfl) rfl ?_
      clear E a; intro a E
      refine S_x (X_pu E S rfl rfl rfl (U_contains h1 (by first | assumption | omega)) (Hp.le.refl _) ?_)
      clear E a S; rintro a _ w M_12 hM_12 rfl S E
      replace h0 := h0.le hM_12
      replace h1 := h1.le hM_12
      replace shb0 := hM_12.2 _ _ shb0
      replace shm0 := shm0.le hM_12
      replace hf_7 := hf_7.le hM_12
      refine WL_nil ?_
      refine T_n ?_
      refine WP_cond E rfl (fun hc_13 => ?_) (fun hc_13 => ?_)
      · replace hc_13 := of_decide_eq_true hc_13
        refine WP_seq ?_
        refine WP_region ?_
        refine S_v E rfl (R_assign E rfl) rfl ?_
        clear E a; intro a E
        refine WL_nil ?_
        refine T_n ?_
        refine WP_ret ?_
        refine B_r ?_
        refine T_r ?_
        refine B_r ?_
        refine T_r ?_
        exact F_ret1 E Tryz.results191 rfl ⟨_, rfl, M_12, (hM_1.trans (hM_2.trans (hM_8.trans hM_12))), (congrArg Value.bool (by (first | exact (any_f (by first | assumption | exact List.Perm.symm (by assumption)) shq0 (by assumption)).symm | exact ((any_comm c0 c1).trans (any_f (by first | assumption | exact List.Perm.symm (by assumption)) shq1 (by assumption))).symm | exact (any_t (k := _) (by assumption) shq0 (by simp_all)).symm | exact ((any_comm c0 c1).trans (any_t (k := _) (by assumption) shq1 (by simp_all))).symm))), S.drop⟩
      · replace hc_13 := of_decide_eq_false hc_13
        refine WP_skip ?_
        refine B_n ?_
        refine T_n ?_
        replace S := S.reIt (p' := (Sl.encS (p ++ [k_10]))) (congrArg Sl.encS (show p ++ [k_10] = (p ++ [k_10]) by (first | rfl | (simp [addsL_snoc]; done) | (simp [addsL_snoc, List.filter_append, *]; done))))
        exact ⟨(p ++ [k_10]), ⟨M_12, (hM_8.trans hM_12), S, E.keep ⟨rfl, rfl, trivial⟩, (by exact snocN (by assumption) (by assumption)), (by exact snocS (by assumption) (by assumption)), (by simp; omega), (by exact snocP (Q := fun z => z ∉ c1) (by assumption) (by first | assumption | (simp_all; done)))⟩, (by simp; omega)⟩
  · replace hc_3 := of_decide_eq_false hc_3
    refine WP_seq ?_
    refine WP_region ?_
    refine S_v E rfl (R_move E rfl) rfl ?_
    clear E a; intro a E
    have hset := h1
    obtain ⟨sb1, sm1, sq1, se1, shb1, shm1, shn1, shq1⟩ := hset
    have shq1l : sq1.length ≤ c1.length := nodup_len shn1 fun z hz => (shq1 z).1 hz
    refine S_v E rfl (R_nilCheck E rfl se1) rfl ?_
    clear E a; intro a E
    refine S_v E rfl (R_loadM E (congrArg some se1) Tryz.isAgg145 S.imm (cellM_box shb1)) rfl ?_
    clear E a; intro a E
    refine S_x (X_range E S rfl MT145 shm1 rfl ?_)
    clear E a S; rintro a w i_14 es_15 ck_16 E hf_17 S
    replace S : St w M_2 (ItO sm1 es_15 ck_16 i_14 (Sl.encS ([] : List Int)) :: _) := S
    refine WL_nil ?_
    refine T_n ?_
    refine WP_block ?_
    replace S := S.reIt (p' := (Sl.encS [])) (congrArg Sl.encS (show ([] : List Int) = [] by (first | rfl | (simp [addsL_snoc]; done) | (simp [addsL_snoc, List.filter_append, *]; done))))
    refine WP_loop (γ := List Int) (fun (p : List Int) a w => ∃ (M_18 : Hp), Hp.le M_2 M_18 ∧ St w M_18 (ItO sm1 es_15 ck_16 i_14 (Sl.encS p) :: H) ∧ Env a 37 [] [(0, v0), (29, .pointer (some ⟨i_14, 0, none⟩))] ∧ (p.Nodup) ∧ (∀ z ∈ p, z ∈ sq1) ∧ (p.length ≤ sq1.length) ∧ (∀ z ∈ p, z ∉ c0)) (fun p => sq1.length - p.length) [] ⟨M_2, Hp.le.refl _, S, E.keep ⟨rfl, rfl, trivial⟩, (by simp), (by simp), (by simp), (by simp)⟩ ?_
    try clear E
    try clear S
    try clear a
    try clear w
    rintro p a w ⟨M_18, hM_18, S, E, hL1_0, hL1_1, hL1_2, hL1_3⟩
    replace h0 := h0.le hM_18
    replace h1 := h1.le hM_18
    replace shb1 := hM_18.2 _ _ shb1
    replace shm1 := shm1.le hM_18
    replace hf_17 := hf_17.le hM_18
    refine WP_seq ?_
    refine WP_region ?_
    refine S_x (X_nextS E S rfl hf_17 rfl (by assumption) (by assumption) ?_ ?_)
    · clear E a S; rintro a E hpm_19 S
      refine S_v E rfl (R_extract E rfl rfl) rfl ?_
      clear E a; intro a E
      refine WL_nil ?_
      refine T_n ?_
      refine WP_seq ?_
      refine WP_condF E rfl rfl ?_
      refine WP_exit ?_
      refine T_x ?_
      refine T_x ?_
      refine B_x ?_
      refine T_n ?_
      refine WP_seq ?_
      refine WP_region ?_
      refine S_v E rfl (R_assign E rfl) rfl ?_
      clear E a; intro a E
      refine WL_nil ?_
      refine T_n ?_
      refine WP_ret ?_
      exact F_ret1 E Tryz.results191 rfl ⟨_, rfl, M_18, (hM_1.trans (hM_2.trans hM_18)), (congrArg Value.bool (by (first | exact (any_f (by first | assumption | exact List.Perm.symm (by assumption)) shq0 (by assumption)).symm | exact ((any_comm c0 c1).trans (any_f (by first | assumption | exact List.Perm.symm (by assumption)) shq1 (by assumption))).symm | exact (any_t (k := _) (by assumption) shq0 (by simp_all)).symm | exact ((any_comm c0 c1).trans (any_t (k := _) (by assumption) shq1 (by simp_all))).symm))), S.drop⟩
    · clear E a S w; rintro a w k_20 E hk_21 hk_21n hk_21l S
      refine S_v E rfl (R_extract E rfl rfl) rfl ?_
      clear E a; intro a E
      refine WL_nil ?_
      refine T_n ?_
      refine WP_seq ?_
      refine WP_condT E rfl rfl ?_
      refine WP_skip ?_
      refine T_n ?_
      refine WP_block ?_
      refine WP_seq ?_
      refine WP_region ?_
      refine S_v E rfl (R_entry (k := k_20) (v := .agg #[]) E (by have S1 := S; simp only [Sl.encS, List.map_append, List.map_cons, List.map_nil] at S1; exact S1) hf_17 rfl) rfl ?_
      clear E a; intro a E
      refine S_v E rfl (R_extract E rfl rfl) rfl ?_
      clear E a; intro a E
      refine S_v E rfl (R_assign E rfl) rfl ?_
      clear E a; intro a E
      refine WL_nil ?_
      refine T_n ?_
      refine WP_seq ?_
      refine WP_region ?_
      refine S_v E rfl (R_move E rfl) rfl ?_
      clear E a; intro a E
      refine S_v E rfl (R_move E rfl) rfl ?_
      clear E a; intro a E
      refine S_x (X_pu E S rfl rfl rfl (U_contains h0 (by first | assumption | omega)) (Hp.le.refl _) ?_)
      clear E a S; rintro a _ w M_22 hM_22 rfl S E
      replace h0 := h0.le hM_22
      replace h1 := h1.le hM_22
      replace shb1 := hM_22.2 _ _ shb1
      replace shm1 := shm1.le hM_22
      replace hf_17 := hf_17.le hM_22
      refine WL_nil ?_
      refine T_n ?_
      refine WP_cond E rfl (fun hc_23 => ?_) (fun hc_23 => ?_)
      · replace hc_23 := of_decide_eq_true hc_23
        refine WP_seq ?_
        refine WP_region ?_
        refine S_v E rfl (R_assign E rfl) rfl ?_
        clear E a; intro a E
        refine WL_nil ?_
        refine T_n ?_
        refine WP_ret ?_
        refine B_r ?_
        refine T_r ?_
        refine B_r ?_
        refine T_r ?_
        exact F_ret1 E Tryz.results191 rfl ⟨_, rfl, M_22, (hM_1.trans (hM_2.trans (hM_18.trans hM_22))), (congrArg Value.bool (by (first | exact (any_f (by first | assumption | exact List.Perm.symm (by assumption)) shq0 (by assumption)).symm | exact ((any_comm c0 c1).trans (any_f (by first | assumption | exact List.Perm.symm (by assumption)) shq1 (by assumption))).symm | exact (any_t (k := _) (by assumption) shq0 (by simp_all)).symm | exact ((any_comm c0 c1).trans (any_t (k := _) (by assumption) shq1 (by simp_all))).symm))), S.drop⟩
      · replace hc_23 := of_decide_eq_false hc_23
        refine WP_skip ?_
        refine B_n ?_
        refine T_n ?_
        replace S := S.reIt (p' := (Sl.encS (p ++ [k_20]))) (congrArg Sl.encS (show p ++ [k_20] = (p ++ [k_20]) by (first | rfl | (simp [addsL_snoc]; done) | (simp [addsL_snoc, List.filter_append, *]; done))))
        exact ⟨(p ++ [k_20]), ⟨M_22, (hM_18.trans hM_22), S, E.keep ⟨rfl, rfl, trivial⟩, (by exact snocN (by assumption) (by assumption)), (by exact snocS (by assumption) (by assumption)), (by simp; omega), (by exact snocP (Q := fun z => z ∉ c0) (by assumption) (by first | assumption | (simp_all; done)))⟩, (by simp; omega)⟩

set_option maxRecDepth 100000 in
set_option maxHeartbeats 4000000 in
theorem S_ContainsAnyElement {M : Hp} {p0 : Nat} {v0 : Value} {c0 : List Int} (h0 : RdSU 145 M v0 c0) {p1 : Nat} {v1 : Value} {c1 : List Int} (h1 : RdSU 145 M v1 c1) (b0 : c0.length ≤ 1000000000) (b1 : c1.length ≤ 1000000000)  :
    Sp Tryz.prog (.func (.func 166) #[] #[]) M [.pointer (some ⟨p0, 0, none⟩), .iface 114 (.pointer (some ⟨p1, 0, none⟩))] [blk p0 (.cells #[.int .i32 0, .int .u32 0, .int .u32 0, .int .u32 0, .int .i32 0, .int .i32 0, v0] 144), blk p1 (.cells #[.int .i32 0, .int .u32 0, .int .u32 0, .int .u32 0, .int .i32 0, .int .i32 0, v1] 144)] (fun r M' C' => C' = [blk p0 (.cells #[.int .i32 0, .int .u32 0, .int .u32 0, .int .u32 0, .int .i32 0, .int .i32 0, v0] 144), blk p1 (.cells #[.int .i32 0, .int .u32 0, .int .u32 0, .int .u32 0, .int .i32 0, .int .i32 0, v1] 144)] ∧ (r = .bool (any' c0 c1))) := by
  refine Sp_enter Tryz.func166 rfl Tryz.ntmps166 rfl Tryz.call166 ?_
  intro a w M1 H hM1 S E
  replace S : St w M1 (blk p0 (.cells #[.int .i32 0, .int .u32 0, .int .u32 0, .int .u32 0, .int .i32 0, .int .i32 0, v0] 144) :: blk p1 (.cells #[.int .i32 0, .int .u32 0, .int .u32 0, .int .u32 0, .int .i32 0, .int .i32 0, v1] 144) :: _) := S
  replace h0 := h0.le hM1
  replace h1 := h1.le hM1
  have hset := h0
  obtain ⟨sb0, sm0, sq0, se0, shb0, shm0, shn0, shq0⟩ := hset
  have shq0l : sq0.length ≤ c0.length := nodup_len shn0 fun z hz => (shq0 z).1 hz
  have hset := h1
  obtain ⟨sb1, sm1, sq1, se1, shb1, shm1, shn1, shq1⟩ := hset
  have shq1l : sq1.length ≤ c1.length := nodup_len shn1 fun z hz => (shq1 z).1 hz
  refine WP_seq ?_
  refine WP_region ?_
  refine S_v E rfl (R_assign E rfl) rfl ?_
  clear E a; intro a E
  refine WL_nil ?_
  refine T_n ?_
  refine WP_seq ?_
  refine WP_region ?_
  refine S_v E rfl (R_move E rfl) rfl ?_
  clear E a; intro a E
  refine S_v E rfl (R_assert E rfl Tryz.underlying114 (by intro z hz; cases hz)) rfl ?_
  clear E a; intro a E
  refine S_v E rfl (R_assign E rfl) rfl ?_
  clear E a; intro a E
  refine WL_nil ?_
  refine T_n ?_
  refine WP_seq ?_
  refine WP_region ?_
  refine S_v E rfl (R_move E rfl) rfl ?_
  clear E a; intro a E
  refine S_v E rfl (R_nilCheck E rfl rfl) rfl ?_
  clear E a; intro a E
  refine S_v E rfl (R_fieldAddr E rfl (FA144_0 _)) rfl ?_
  clear E a; intro a E
  replace S : St w M1 (LK p0 144 0 v0 :: _) := S
  refine S_x (X_sp (p := [LK p0 144 0 v0]) E S rfl rfl rfl (rlock_sp Tryz.rwRLib (T := 144) (n := 0) (by decide) (by decide)) (Hp.le.refl _) ?_)
  clear E a S; rintro a _ w M_1 _ hM_1 ⟨rfl, rfl⟩ S E
  replace S : St w M_1 (blk p0 (.cells #[.int .i32 0, .int .u32 0, .int .u32 0, .int .u32 0, .int .i32 1, .int .i32 0, v0] 144) :: blk p1 (.cells #[.int .i32 0, .int .u32 0, .int .u32 0, .int .u32 0, .int .i32 0, .int .i32 0, v1] 144) :: H) := S
  replace h0 := h0.le hM_1
  replace h1 := h1.le hM_1
  replace shb0 := hM_1.2 _ _ shb0
  replace shm0 := shm0.le hM_1
  replace shb1 := hM_1.2 _ _ shb1
  replace shm1 := shm1.le hM_1
  refine WL_nil ?_
  refine T_n ?_
  refine WP_seq ?_
  refine WP_region ?_
  refine S_v E rfl (R_move E rfl) rfl ?_
  clear E a; intro a E
  refine S_v E rfl (R_nilCheck E rfl rfl) rfl ?_
  clear E a; intro a E
  refine S_v E rfl (R_fieldAddr E rfl (FA144_0 _)) rfl ?_
  clear E a; intro a E
  replace S := S.front1
  replace S : St w M_1 (LK p1 144 0 v1 :: _) := S
  refine S_x (X_sp (p := [LK p1 144 0 v1]) E S rfl rfl rfl (rlock_sp Tryz.rwRLib (T := 144) (n := 0) (by decide) (by decide)) (Hp.le.refl _) ?_)
  clear E a S; rintro a _ w M_2 _ hM_2 ⟨rfl, rfl⟩ S E
  replace S : St w M_2 (blk p1 (.cells #[.int .i32 0, .int .u32 0, .int .u32 0, .int .u32 0, .int .i32 1, .int .i32 0, v1] 144) :: blk p0 (.cells #[.int .i32 0, .int .u32 0, .int .u32 0, .int .u32 0, .int .i32 1, .int .i32 0, v0] 144) :: H) := S
  replace h0 := h0.le hM_2
  replace h1 := h1.le hM_2
  replace shb0 := hM_2.2 _ _ shb0
  replace shm0 := shm0.le hM_2
  replace shb1 := hM_2.2 _ _ shb1
  replace shm1 := shm1.le hM_2
  refine WL_nil ?_
  refine T_n ?_
  refine WP_seq ?_
  replace S := S.mono_heap (w' := World.drew _) rfl
  refine WP_drawn (C := fun x w => agree M_2 w ∧ (x = 3 → w.heap[p0]? = some (.cells #[.int .i32 0, .int .u32 0, .int .u32 0, .int .u32 0, .int .i32 1, .int .i32 0, v0] 144)) ∧ (x = 7 → w.heap[p1]? = some (.cells #[.int .i32 0, .int .u32 0, .int .u32 0, .int .u32 0, .int .i32 1, .int .i32 0, v1] 144))) (bf := (fun i => bif Nat.beq i 9 then [3, 7] else [])) [0, 1, 2, 3, 4, 5, 6, 7, 8, 10] [0, 1, 2, 3, 4, 5, 6, 7, 8, 9, 10] Tryz.mixed (by kernel_rfl) (fun x hq => ⟨S.imm, fun _ => (S.mem (.tail _ (.head _))), fun _ => (S.mem (.head _))⟩) ?_
  refine D_v E rfl rfl rfl (fun w hC => (R_move E rfl)) ?_
  clear E a; intro a E
  refine D_v E rfl rfl rfl (fun w hC => (R_nilCheck E rfl rfl)) ?_
  clear E a; intro a E
  refine D_v E rfl rfl rfl (fun w hC => (R_fieldAddr E rfl (FA144_1 _))) ?_
  clear E a; intro a E
  refine D_v E rfl rfl rfl (fun w hC => (R_load E rfl (Tryz.isAgg116 _) (cell_blkf (hC.2.1 rfl) rfl))) ?_
  clear E a; intro a E
  refine D_v E rfl rfl rfl (fun w hC => (R_move E rfl)) ?_
  clear E a; intro a E
  refine D_v E rfl rfl rfl (fun w hC => (R_nilCheck E rfl rfl)) ?_
  clear E a; intro a E
  refine D_v E rfl rfl rfl (fun w hC => (R_fieldAddr E rfl (FA144_1 _))) ?_
  clear E a; intro a E
  refine D_v E rfl rfl rfl (fun w hC => (R_load E rfl (Tryz.isAgg116 _) (cell_blkf (hC.2.2 rfl) rfl))) ?_
  clear E a; intro a E
  refine D_v E rfl rfl rfl (fun w hC => (R_ifaceP E rfl Tryz.underlying116)) ?_
  clear E a; intro a E
  refine D_x rfl rfl rfl (X_pu E S rfl rfl rfl (U_ContainsAnyElement h0 h1 (by first | assumption | omega) (by first | assumption | omega)) (Hp.le.refl _) ?_)
  clear E a S; rintro a _ w M_3 hM_3 rfl S E
  replace h0 := h0.le hM_3
  replace h1 := h1.le hM_3
  replace shb0 := hM_3.2 _ _ shb0
  replace shm0 := shm0.le hM_3
  replace shb1 := hM_3.2 _ _ shb1
  replace shm1 := shm1.le hM_3
  refine ⟨fun x hq hb => ⟨(agree_le hM_3 S.imm), (fun e => by subst e; exact absurd hb (by decide)), (fun e => by subst e; exact absurd hb (by decide))⟩, ?_⟩
  refine D_v E rfl rfl rfl (fun w hC => (R_assign E rfl)) ?_
  clear E a; intro a E
  refine D_end (NoP_n ?_)
  refine T_n ?_
  refine WP_seq ?_
  refine WP_region ?_
  refine S_v E rfl (R_move E rfl) rfl ?_
  clear E a; intro a E
  refine S_v E rfl (R_nilCheck E rfl rfl) rfl ?_
  clear E a; intro a E
  refine S_v E rfl (R_fieldAddr E rfl (FA144_0 _)) rfl ?_
  clear E a; intro a E
  replace S := S.front1
  replace S : St w M_3 (LK p0 144 (0 + 1) v0 :: _) := S
  refine S_x (X_sp (p := [LK p0 144 (0 + 1) v0]) E S rfl rfl rfl (runlock_sp Tryz.rwRLib (T := 144) (n := 0) (by decide) (by decide)) (Hp.le.refl _) ?_)
  clear E a S; rintro a _ w M_4 _ hM_4 ⟨rfl, rfl⟩ S E
  replace S : St w M_4 (blk p0 (.cells #[.int .i32 0, .int .u32 0, .int .u32 0, .int .u32 0, .int .i32 0, .int .i32 0, v0] 144) :: blk p1 (.cells #[.int .i32 0, .int .u32 0, .int .u32 0, .int .u32 0, .int .i32 1, .int .i32 0, v1] 144) :: H) := S
  replace h0 := h0.le hM_4
  replace h1 := h1.le hM_4
  replace shb0 := hM_4.2 _ _ shb0
  replace shm0 := shm0.le hM_4
  replace shb1 := hM_4.2 _ _ shb1
  replace shm1 := shm1.le hM_4
  refine WL_nil ?_
  refine T_n ?_
  refine WP_seq ?_
  refine WP_region ?_
  refine S_v E rfl (R_move E rfl) rfl ?_
  clear E a; intro a E
  refine S_v E rfl (R_nilCheck E rfl rfl) rfl ?_
  clear E a; intro a E
  refine S_v E rfl (R_fieldAddr E rfl (FA144_0 _)) rfl ?_
  clear E a; intro a E
  replace S := S.front1
  replace S : St w M_4 (LK p1 144 (0 + 1) v1 :: _) := S
  refine S_x (X_sp (p := [LK p1 144 (0 + 1) v1]) E S rfl rfl rfl (runlock_sp Tryz.rwRLib (T := 144) (n := 0) (by decide) (by decide)) (Hp.le.refl _) ?_)
  clear E a S; rintro a _ w M_5 _ hM_5 ⟨rfl, rfl⟩ S E
  replace S : St w M_5 (blk p1 (.cells #[.int .i32 0, .int .u32 0, .int .u32 0, .int .u32 0, .int .i32 0, .int .i32 0, v1] 144) :: blk p0 (.cells #[.int .i32 0, .int .u32 0, .int .u32 0, .int .u32 0, .int .i32 0, .int .i32 0, v0] 144) :: H) := S
  replace h0 := h0.le hM_5
  replace h1 := h1.le hM_5
  replace shb0 := hM_5.2 _ _ shb0
  replace shm0 := shm0.le hM_5
  replace shb1 := hM_5.2 _ _ shb1
  replace shm1 := shm1.le hM_5
  refine WL_nil ?_
  refine T_n ?_
  refine WP_seq ?_
  refine WP_region ?_
  refine S_v E rfl (R_move E rfl) rfl ?_
  clear E a; intro a E
  refine S_v E rfl (R_assign E rfl) rfl ?_
  clear E a; intro a E
  refine WL_nil ?_
  refine T_n ?_
  refine WP_ret ?_
  replace S := S.front1
  exact F_ret1 E Tryz.results166 rfl ⟨_, rfl, M_5, _, (hM_1.trans (hM_2.trans (hM_3.trans (hM_4.trans hM_5)))), ⟨rfl, rfl⟩, S⟩

set_option maxRecDepth 100000 in
set_option maxHeartbeats 4000000 in
theorem AS_ContainsAnyElement {M : Hp} {p0 : Nat} {v0 : Value} {c0 : List Int} (h0 : RdSU 145 M v0 c0) (b0 : c0.length ≤ 1000000000)  :
    Sp Tryz.prog (.func (.func 166) #[] #[]) M [.pointer (some ⟨p0, 0, none⟩), .iface 114 (.pointer (some ⟨p0, 0, none⟩))] [blk p0 (.cells #[.int .i32 0, .int .u32 0, .int .u32 0, .int .u32 0, .int .i32 0, .int .i32 0, v0] 144)] (fun r M' C' => C' = [blk p0 (.cells #[.int .i32 0, .int .u32 0, .int .u32 0, .int .u32 0, .int .i32 0, .int .i32 0, v0] 144)] ∧ (r = .bool (any' c0 c0))) := by
  refine Sp_enter Tryz.func166 rfl Tryz.ntmps166 rfl Tryz.call166 ?_
  intro a w M1 H hM1 S E
  replace S : St w M1 (blk p0 (.cells #[.int .i32 0, .int .u32 0, .int .u32 0, .int .u32 0, .int .i32 0, .int .i32 0, v0] 144) :: _) := S
  replace h0 := h0.le hM1
  have hset := h0
  obtain ⟨sb0, sm0, sq0, se0, shb0, shm0, shn0, shq0⟩ := hset
  have shq0l : sq0.length ≤ c0.length := nodup_len shn0 fun z hz => (shq0 z).1 hz
  refine WP_seq ?_
  refine WP_region ?_
  refine S_v E rfl (R_assign E rfl) rfl ?_
  clear E a; intro a E
  refine WL_nil ?_
  refine T_n ?_
  refine WP_seq ?_
  refine WP_region ?_
  refine S_v E rfl (R_move E rfl) rfl ?_
  clear E a; intro a E
  refine S_v E rfl (R_assert E rfl Tryz.underlying114 (by intro z hz; cases hz)) rfl ?_
  clear E a; intro a E
  refine S_v E rfl (R_assign E rfl) rfl ?_
  clear E a; intro a E
  refine WL_nil ?_
  refine T_n ?_
  refine WP_seq ?_
  refine WP_region ?_
  refine S_v E rfl (R_move E rfl) rfl ?_
  clear E a; intro a E
  refine S_v E rfl (R_nilCheck E rfl rfl) rfl ?_
  clear E a; intro a E
  refine S_v E rfl (R_fieldAddr E rfl (FA144_0 _)) rfl ?_
  clear E a; intro a E
  replace S : St w M1 (LK p0 144 0 v0 :: _) := S
  refine S_x (X_sp (p := [LK p0 144 0 v0]) E S rfl rfl rfl (rlock_sp Tryz.rwRLib (T := 144) (n := 0) (by decide) (by decide)) (Hp.le.refl _) ?_)
  clear E a S; rintro a _ w M_1 _ hM_1 ⟨rfl, rfl⟩ S E
  replace S : St w M_1 (blk p0 (.cells #[.int .i32 0, .int .u32 0, .int .u32 0, .int .u32 0, .int .i32 1, .int .i32 0, v0] 144) :: H) := S
  replace h0 := h0.le hM_1
  replace shb0 := hM_1.2 _ _ shb0
  replace shm0 := shm0.le hM_1
  refine WL_nil ?_
  refine T_n ?_
  refine WP_seq ?_
  refine WP_region ?_
  refine S_v E rfl (R_move E rfl) rfl ?_
  clear E a; intro a E
  refine S_v E rfl (R_nilCheck E rfl rfl) rfl ?_
  clear E a; intro a E
  refine S_v E rfl (R_fieldAddr E rfl (FA144_0 _)) rfl ?_
  clear E a; intro a E
  replace S : St w M_1 (LK p0 144 1 v0 :: _) := S
  refine S_x (X_sp (p := [LK p0 144 1 v0]) E S rfl rfl rfl (rlock_sp Tryz.rwRLib (T := 144) (n := 1) (by decide) (by decide)) (Hp.le.refl _) ?_)
  clear E a S; rintro a _ w M_2 _ hM_2 ⟨rfl, rfl⟩ S E
  replace S : St w M_2 (blk p0 (.cells #[.int .i32 0, .int .u32 0, .int .u32 0, .int .u32 0, .int .i32 2, .int .i32 0, v0] 144) :: H) := S
  replace h0 := h0.le hM_2
  replace shb0 := hM_2.2 _ _ shb0
  replace shm0 := shm0.le hM_2
  refine WL_nil ?_
  refine T_n ?_
  refine WP_seq ?_
  replace S := S.mono_heap (w' := World.drew _) rfl
  refine WP_drawn (C := fun x w => agree M_2 w ∧ (x = 3 → w.heap[p0]? = some (.cells #[.int .i32 0, .int .u32 0, .int .u32 0, .int .u32 0, .int .i32 2, .int .i32 0, v0] 144)) ∧ (x = 7 → w.heap[p0]? = some (.cells #[.int .i32 0, .int .u32 0, .int .u32 0, .int .u32 0, .int .i32 2, .int .i32 0, v0] 144))) (bf := (fun i => bif Nat.beq i 9 then [3, 7] else [])) [0, 1, 2, 3, 4, 5, 6, 7, 8, 10] [0, 1, 2, 3, 4, 5, 6, 7, 8, 9, 10] Tryz.mixed (by kernel_rfl) (fun x hq => ⟨S.imm, fun _ => (S.mem (.head _)), fun _ => (S.mem (.head _))⟩) ?_
  refine D_v E rfl rfl rfl (fun w hC => (R_move E rfl)) ?_
  clear E a; intro a E
  refine D_v E rfl rfl rfl (fun w hC => (R_nilCheck E rfl rfl)) ?_
  clear E a; intro a E
  refine D_v E rfl rfl rfl (fun w hC => (R_fieldAddr E rfl (FA144_1 _))) ?_
  clear E a; intro a E
  refine D_v E rfl rfl rfl (fun w hC => (R_load E rfl (Tryz.isAgg116 _) (cell_blkf (hC.2.1 rfl) rfl))) ?_
  clear E a; intro a E
  refine D_v E rfl rfl rfl (fun w hC => (R_move E rfl)) ?_
  clear E a; intro a E
  refine D_v E rfl rfl rfl (fun w hC => (R_nilCheck E rfl rfl)) ?_
  clear E a; intro a E
  refine D_v E rfl rfl rfl (fun w hC => (R_fieldAddr E rfl (FA144_1 _))) ?_
  clear E a; intro a E
  refine D_v E rfl rfl rfl (fun w hC => (R_load E rfl (Tryz.isAgg116 _) (cell_blkf (hC.2.2 rfl) rfl))) ?_
  clear E a; intro a E
  refine D_v E rfl rfl rfl (fun w hC => (R_ifaceP E rfl Tryz.underlying116)) ?_
  clear E a; intro a E
  refine D_x rfl rfl rfl (X_pu E S rfl rfl rfl (U_ContainsAnyElement h0 h0 (by first | assumption | omega) (by first | assumption | omega)) (Hp.le.refl _) ?_)
  clear E a S; rintro a _ w M_3 hM_3 rfl S E
  replace h0 := h0.le hM_3
  replace shb0 := hM_3.2 _ _ shb0
  replace shm0 := shm0.le hM_3
  refine ⟨fun x hq hb => ⟨(agree_le hM_3 S.imm), (fun e => by subst e; exact absurd hb (by decide)), (fun e => by subst e; exact absurd hb (by decide))⟩, ?_⟩
  refine D_v E rfl rfl rfl (fun w hC => (R_assign E rfl)) ?_
  clear E a; intro a E
  refine D_end (NoP_n ?_)
  refine T_n ?_
  refine WP_seq ?_
  refine WP_region ?_
  refine S_v E rfl (R_move E rfl) rfl ?_
  clear E a; intro a E
  refine S_v E rfl (R_nilCheck E rfl rfl) rfl ?_
  clear E a; intro a E
  refine S_v E rfl (R_fieldAddr E rfl (FA144_0 _)) rfl ?_
  clear E a; intro a E
  replace S : St w M_3 (LK p0 144 (1 + 1) v0 :: _) := S
  refine S_x (X_sp (p := [LK p0 144 (1 + 1) v0]) E S rfl rfl rfl (runlock_sp Tryz.rwRLib (T := 144) (n := 1) (by decide) (by decide)) (Hp.le.refl _) ?_)
  clear E a S; rintro a _ w M_4 _ hM_4 ⟨rfl, rfl⟩ S E
  replace S : St w M_4 (blk p0 (.cells #[.int .i32 0, .int .u32 0, .int .u32 0, .int .u32 0, .int .i32 1, .int .i32 0, v0] 144) :: H) := S
  replace h0 := h0.le hM_4
  replace shb0 := hM_4.2 _ _ shb0
  replace shm0 := shm0.le hM_4
  refine WL_nil ?_
  refine T_n ?_
  refine WP_seq ?_
  refine WP_region ?_
  refine S_v E rfl (R_move E rfl) rfl ?_
  clear E a; intro a E
  refine S_v E rfl (R_nilCheck E rfl rfl) rfl ?_
  clear E a; intro a E
  refine S_v E rfl (R_fieldAddr E rfl (FA144_0 _)) rfl ?_
  clear E a; intro a E
  replace S : St w M_4 (LK p0 144 (0 + 1) v0 :: _) := S
  refine S_x (X_sp (p := [LK p0 144 (0 + 1) v0]) E S rfl rfl rfl (runlock_sp Tryz.rwRLib (T := 144) (n := 0) (by decide) (by decide)) (Hp.le.refl _) ?_)
  clear E a S; rintro a _ w M_5 _ hM_5 ⟨rfl, rfl⟩ S E
  replace S : St w M_5 (blk p0 (.cells #[.int .i32 0, .int .u32 0, .int .u32 0, .int .u32 0, .int .i32 0, .int .i32 0, v0] 144) :: H) := S
  replace h0 := h0.le hM_5
  replace shb0 := hM_5.2 _ _ shb0
  replace shm0 := shm0.le hM_5
  refine WL_nil ?_
  refine T_n ?_
  refine WP_seq ?_
  refine WP_region ?_
  refine S_v E rfl (R_move E rfl) rfl ?_
  clear E a; intro a E
  refine S_v E rfl (R_assign E rfl) rfl ?_
  clear E a; intro a E
  refine WL_nil ?_
  refine T_n ?_
  refine WP_ret ?_
  exact F_ret1 E Tryz.results166 rfl ⟨_, rfl, M_5, _, (hM_1.trans (hM_2.trans (hM_3.trans (hM_4.trans hM_5)))), ⟨rfl, rfl⟩, S⟩

set_option maxRecDepth 100000 in
set_option maxHeartbeats 4000000 in
theorem reg_ContainsAnyElement {M : Hp} {x0 : Bool} {v : Value} {t : List RG} {i : Nat} {x : RG} {j : Nat} {y : RG} (hx : t[i]? = some x) (hy : t[j]? = some y) (hb : x.2.2.length ≤ 1000000000) (hb2 : y.2.2.length ≤ 1000000000) :
    InvSp Tryz.prog (ifv KS x0 x) "ContainsAnyElement" M [ifv KS x0 y] [Regs KS x0 v t] (fun r _ C' => ∃ D, C' = Regs KS x0 v t :: D ∧ (r = (.bool (any' x.2.2 y.2.2)) ∧ D = [])) := by
  refine reg_look2 hx hy (fun M' hM hr hs => ?_) (fun e M' hM hr => ?_)
  · cases x0
    · exact lookU (F := [lkI KS false x, lkI KS false y]) (InvSp.of_pu (fun w => meth_116_ContainsAnyElement _ w) Tryz.call191 (U_ContainsAnyElement hr hs hb hb2)) fun r M2 C h => h
    · exact (InvSp.of_sp (fun w => meth_114_ContainsAnyElement _ w) Tryz.call166 (S_ContainsAnyElement hr hs hb hb2)).mono fun r M2 C ⟨h1, h2⟩ => ⟨[], h1, h2, rfl⟩
  · subst e
    cases x0
    · exact lookU (F := [lkI KS false y]) (InvSp.of_pu (fun w => meth_116_ContainsAnyElement _ w) Tryz.call191 (U_ContainsAnyElement hr hr hb hb)) fun r M2 C h => h
    · exact (InvSp.of_sp (fun w => meth_114_ContainsAnyElement _ w) Tryz.call166 (AS_ContainsAnyElement hr hb)).mono fun r M2 C ⟨h1, h2⟩ => ⟨[], h1, h2, rfl⟩

set_option maxRecDepth 100000 in
set_option maxHeartbeats 4000000 in
theorem U_Contains {M : Hp} {v0 : Value} {c0 : List Int} (h0 : RdSU 145 M v0 c0) {v1 : Value} {l1 : List Int} (h1 : RdI M v1 l1)(b0 : c0.length ≤ 1000000000)  :
    Pu Tryz.prog (.func (.func 189) #[] #[]) M [v0, v1] (fun r M' => r = .bool (sub' l1 c0)) := by
  refine Pu_enter Tryz.func189 rfl Tryz.ntmps189 rfl Tryz.call189 ?_
  intro a w M1 H hM1 S E
  replace h0 := h0.le hM1
  replace h1 := h1.le hM1
  have b1 := h1.bound
  refine WP_seq ?_
  refine WP_region ?_
  refine S_v E rfl (R_assign E rfl) rfl ?_
  clear E a; intro a E
  refine WL_nil ?_
  refine T_n ?_
  refine WP_seq ?_
  refine WP_seq ?_
  refine WP_region ?_
  refine S_v E rfl (R_move E rfl) rfl ?_
  clear E a; intro a E
  refine S_v E rfl (R_lenV E rfl T22 h1.len) rfl ?_
  clear E a; intro a E
  refine S_v E rfl (R_move E rfl) rfl ?_
  clear E a; intro a E
  refine WL_nil ?_
  refine T_n ?_
  refine WP_block ?_
  refine WP_loop (γ := Nat) (fun (k : Nat) a w => ∃ (M_1 : Hp), Hp.le M1 M_1 ∧ St w M_1 (H) ∧ Env a 26 [] [(0, v0), (9, v1), (10, .int .i64 (((l1).length : Nat) : Int)), (11, .int .i64 ((k : Nat) : Int))] ∧ (k ≤ (l1).length) ∧ (∀ z ∈ l1.take k, z ∈ c0)) (fun k => ((l1).length) - k) 0 ⟨M1, Hp.le.refl _, S, E.keep ⟨rfl, rfl, rfl, rfl, trivial⟩, by ((try clear S); (try clear E); first | assumption | omega | rfl | (simp; done) | (simp_all; done) | (simp [List.take_add_one, *]; done) | grind [List.take_add_one]), by ((try clear S); (try clear E); first | assumption | omega | rfl | (simp; done) | (simp_all; done) | (simp [List.take_add_one, *]; done) | grind [List.take_add_one])⟩ ?_
  try clear E
  try clear S
  try clear a
  try clear w
  rintro k a w ⟨M_1, hM_1, S, E, hL0_0, hL0_1⟩
  replace h0 := h0.le hM_1
  replace h1 := h1.le hM_1
  refine WP_seq ?_
  refine WP_region ?_
  refine S_v E rfl (R_lss E rfl rfl) rfl ?_
  clear E a; intro a E
  refine WL_nil ?_
  refine T_n ?_
  refine WP_seq ?_
  refine WP_cond E rfl (fun hc_2 => ?_) (fun hc_2 => ?_)
  · replace hc_2 := of_decide_eq_true hc_2
    refine WP_skip ?_
    refine T_n ?_
    refine WP_seq ?_
    refine WP_block ?_
    refine WP_seq ?_
    refine WP_region ?_
    obtain ⟨x_3, hx_3⟩ : ∃ x, (l1)[k]? = some x := ⟨_, List.getElem?_eq_getElem (by first | omega | (simp; done) | (simp; omega) | (simp_all; omega))⟩
    obtain ⟨p_4, hp_4, qp_4⟩ := h1.at hx_3
    refine S_v E rfl (R_idx E rfl rfl T22 hp_4 rfl) rfl ?_
    clear E a; intro a E
    refine S_v E rfl (R_loadM E rfl Tryz.isAgg3 S.imm qp_4) rfl ?_
    clear E a; intro a E
    refine S_v E rfl (R_assign E rfl) rfl ?_
    clear E a; intro a E
    refine WL_nil ?_
    refine T_n ?_
    refine WP_seq ?_
    refine WP_region ?_
    refine S_v E rfl (R_move E rfl) rfl ?_
    clear E a; intro a E
    have hset := h0
    obtain ⟨sb0, sm0, sq0, se0, shb0, shm0, shn0, shq0⟩ := hset
    have shq0l : sq0.length ≤ c0.length := nodup_len shn0 fun z hz => (shq0 z).1 hz
    refine S_v E rfl (R_nilCheck E rfl se0) rfl ?_
    clear E a; intro a E
    refine S_v E rfl (R_loadM E (congrArg some se0) Tryz.isAgg145 S.imm (cellM_box shb0)) rfl ?_
    clear E a; intro a E
    refine S_v E rfl (R_move E rfl) rfl ?_
    clear E a; intro a E
    refine S_v E rfl (R_lookupFS S.imm shm0 E MT145 rfl rfl) rfl ?_
    clear E a; intro a E
    refine S_v E rfl (R_move E rfl) rfl ?_
    clear E a; intro a E
    refine S_v E rfl (R_extract E rfl rfl) rfl ?_
    clear E a; intro a E
    refine S_v E rfl (R_extract E rfl rfl) rfl ?_
    clear E a; intro a E
    refine S_x (X_alloc (cs := #[]) E S rfl Tryz.zeroValue104 rfl ?_)
    clear E a S; rintro a w b_5 E S
    refine S_x0 (X_storeG (us := []) E S rfl rfl (Tryz.sizeOf104 _) rfl (by intro u hu; cases hu) ?_)
    clear E a S; rintro a w E S
    replace S : St w M_1 (blk b_5 (.cells #[] 104) :: _) := S
    have S0 := S; clear S
    obtain ⟨M_6, hM_6, hb_7, S⟩ := S0.freezeB
    clear S0
    replace h0 := h0.le hM_6
    replace h1 := h1.le hM_6
    replace shb0 := hM_6.2 _ _ shb0
    replace shm0 := shm0.le hM_6
    refine S_v E rfl (R_assign E rfl) rfl ?_
    clear E a; intro a E
    refine WL_nil ?_
    refine T_n ?_
    refine WP_seq ?_
    refine WP_region ?_
    refine S_v E rfl (R_move E rfl) rfl ?_
    clear E a; intro a E
    refine S_v E rfl (R_not E rfl) rfl ?_
    clear E a; intro a E
    refine WL_nil ?_
    refine T_n ?_
    refine WP_cond E rfl (fun hc_8 => ?_) (fun hc_8 => ?_)
    · refine WP_seq ?_
      refine WP_region ?_
      refine S_v E rfl (R_assign E rfl) rfl ?_
      clear E a; intro a E
      refine WL_nil ?_
      refine T_n ?_
      refine WP_ret ?_
      refine B_r ?_
      refine T_r ?_
      refine T_r ?_
      refine B_r ?_
      refine T_r ?_
      exact F_ret1 E Tryz.results189 rfl ⟨_, rfl, M_6, (hM_1.trans hM_6), (congrArg Value.bool (by (first | exact (sub_all (by assumption) (by omega)).symm | exact (sub_f1 (by assumption) (by simp_all)).symm))), S⟩
    · refine WP_skip ?_
      refine B_n ?_
      refine T_n ?_
      refine WP_region ?_
      refine S_v E rfl (R_addx (m := ((k + 1 : Nat) : Int)) E rfl rfl (by omega) (by omega)) rfl ?_
      clear E a; intro a E
      refine S_v E rfl (R_move E rfl) rfl ?_
      clear E a; intro a E
      refine WL_nil ?_
      refine T_n ?_
      exact ⟨k + 1, ⟨M_6, (hM_1.trans hM_6), S, E.keep ⟨rfl, rfl, rfl, rfl, trivial⟩, by ((try clear S); (try clear E); first | assumption | omega | rfl | (simp; done) | (simp_all; done) | (simp [List.take_add_one, *]; done) | grind [List.take_add_one]), by ((try clear S); (try clear E); first | assumption | omega | rfl | (simp; done) | (simp_all; done) | (simp [List.take_add_one, *]; done) | grind [List.take_add_one])⟩, by omega⟩
  · replace hc_2 := of_decide_eq_false hc_2
    refine WP_exit ?_
    refine T_x ?_
    refine T_x ?_
    refine B_x ?_
    refine T_n ?_
    refine WP_seq ?_
    refine WP_region ?_
    refine S_v E rfl (R_assign E rfl) rfl ?_
    clear E a; intro a E
    refine WL_nil ?_
    refine T_n ?_
    refine WP_ret ?_
    exact F_ret1 E Tryz.results189 rfl ⟨_, rfl, M_1, hM_1, (congrArg Value.bool (by (first | exact (sub_all (by assumption) (by omega)).symm | exact (sub_f1 (by assumption) (by simp_all)).symm))), S⟩

set_option maxRecDepth 100000 in
set_option maxHeartbeats 4000000 in
theorem S_Contains {M : Hp} {p0 : Nat} {v0 : Value} {c0 : List Int} (h0 : RdSU 145 M v0 c0) {v1 : Value} {l1 : List Int} (h1 : RdI M v1 l1)(b0 : c0.length ≤ 1000000000)  :
    Sp Tryz.prog (.func (.func 164) #[] #[]) M [.pointer (some ⟨p0, 0, none⟩), v1] [blk p0 (.cells #[.int .i32 0, .int .u32 0, .int .u32 0, .int .u32 0, .int .i32 0, .int .i32 0, v0] 144)] (fun r M' C' => C' = [blk p0 (.cells #[.int .i32 0, .int .u32 0, .int .u32 0, .int .u32 0, .int .i32 0, .int .i32 0, v0] 144)] ∧ (r = .bool (sub' l1 c0))) := by
  refine Sp_enter Tryz.func164 rfl Tryz.ntmps164 rfl Tryz.call164 ?_
  intro a w M1 H hM1 S E
  replace S : St w M1 (blk p0 (.cells #[.int .i32 0, .int .u32 0, .int .u32 0, .int .u32 0, .int .i32 0, .int .i32 0, v0] 144) :: _) := S
  replace h0 := h0.le hM1
  replace h1 := h1.le hM1
  have hset := h0
  obtain ⟨sb0, sm0, sq0, se0, shb0, shm0, shn0, shq0⟩ := hset
  have shq0l : sq0.length ≤ c0.length := nodup_len shn0 fun z hz => (shq0 z).1 hz
  refine WP_seq ?_
  refine WP_region ?_
  refine S_v E rfl (R_assign E rfl) rfl ?_
  clear E a; intro a E
  refine WL_nil ?_
  refine T_n ?_
  refine WP_seq ?_
  refine WP_region ?_
  refine S_v E rfl (R_move E rfl) rfl ?_
  clear E a; intro a E
  refine S_v E rfl (R_nilCheck E rfl rfl) rfl ?_
  clear E a; intro a E
  refine S_v E rfl (R_fieldAddr E rfl (FA144_0 _)) rfl ?_
  clear E a; intro a E
  replace S : St w M1 (LK p0 144 0 v0 :: _) := S
  refine S_x (X_sp (p := [LK p0 144 0 v0]) E S rfl rfl rfl (rlock_sp Tryz.rwRLib (T := 144) (n := 0) (by decide) (by decide)) (Hp.le.refl _) ?_)
  clear E a S; rintro a _ w M_1 _ hM_1 ⟨rfl, rfl⟩ S E
  replace S : St w M_1 (blk p0 (.cells #[.int .i32 0, .int .u32 0, .int .u32 0, .int .u32 0, .int .i32 1, .int .i32 0, v0] 144) :: H) := S
  replace h0 := h0.le hM_1
  replace h1 := h1.le hM_1
  replace shb0 := hM_1.2 _ _ shb0
  replace shm0 := shm0.le hM_1
  refine WL_nil ?_
  refine T_n ?_
  refine WP_seq ?_
  refine WP_region ?_
  refine S_v E rfl (R_move E rfl) rfl ?_
  clear E a; intro a E
  refine S_v E rfl (R_nilCheck E rfl rfl) rfl ?_
  clear E a; intro a E
  refine S_v E rfl (R_fieldAddr E rfl (FA144_1 _)) rfl ?_
  clear E a; intro a E
  refine S_v E rfl (R_load E rfl (Tryz.isAgg116 _) (cell_blkf (S.mem (.head _)) rfl)) rfl ?_
  clear E a; intro a E
  refine S_v E rfl (R_move E rfl) rfl ?_
  clear E a; intro a E
  refine S_x (X_pu E S rfl rfl rfl (U_Contains h0 h1 (by first | assumption | omega)) (Hp.le.refl _) ?_)
  clear E a S; rintro a _ w M_2 hM_2 rfl S E
  replace h0 := h0.le hM_2
  replace h1 := h1.le hM_2
  replace shb0 := hM_2.2 _ _ shb0
  replace shm0 := shm0.le hM_2
  refine S_v E rfl (R_assign E rfl) rfl ?_
  clear E a; intro a E
  refine WL_nil ?_
  refine T_n ?_
  refine WP_seq ?_
  refine WP_region ?_
  refine S_v E rfl (R_move E rfl) rfl ?_
  clear E a; intro a E
  refine S_v E rfl (R_nilCheck E rfl rfl) rfl ?_
  clear E a; intro a E
  refine S_v E rfl (R_fieldAddr E rfl (FA144_0 _)) rfl ?_
  clear E a; intro a E
  replace S : St w M_2 (LK p0 144 (0 + 1) v0 :: _) := S
  refine S_x (X_sp (p := [LK p0 144 (0 + 1) v0]) E S rfl rfl rfl (runlock_sp Tryz.rwRLib (T := 144) (n := 0) (by decide) (by decide)) (Hp.le.refl _) ?_)
  clear E a S; rintro a _ w M_3 _ hM_3 ⟨rfl, rfl⟩ S E
  replace S : St w M_3 (blk p0 (.cells #[.int .i32 0, .int .u32 0, .int .u32 0, .int .u32 0, .int .i32 0, .int .i32 0, v0] 144) :: H) := S
  replace h0 := h0.le hM_3
  replace h1 := h1.le hM_3
  replace shb0 := hM_3.2 _ _ shb0
  replace shm0 := shm0.le hM_3
  refine WL_nil ?_
  refine T_n ?_
  refine WP_seq ?_
  refine WP_region ?_
  refine S_v E rfl (R_move E rfl) rfl ?_
  clear E a; intro a E
  refine S_v E rfl (R_assign E rfl) rfl ?_
  clear E a; intro a E
  refine WL_nil ?_
  refine T_n ?_
  refine WP_ret ?_
  exact F_ret1 E Tryz.results164 rfl ⟨_, rfl, M_3, _, (hM_1.trans (hM_2.trans hM_3)), ⟨rfl, rfl⟩, S⟩

set_option maxRecDepth 100000 in
set_option maxHeartbeats 4000000 in
theorem reg_Contains {M : Hp} {x0 : Bool} {v : Value} {t : List RG} {i : Nat} {x : RG} {v1 : Value} {l1 : List Int} (hx : t[i]? = some x) (h1 : RdI M v1 l1) (hb : x.2.2.length ≤ 1000000000) :
    InvSp Tryz.prog (ifv KS x0 x) "Contains" M [v1] [Regs KS x0 v t] (fun r _ C' => ∃ D, C' = Regs KS x0 v t :: D ∧ (r = (.bool (sub' l1 x.2.2)) ∧ D = [])) := by
  refine reg_look1 hx fun M' hM hr => ?_
  cases x0
  · exact lookU (F := [lkI KS false x]) (InvSp.of_pu (fun w => meth_116_Contains _ w) Tryz.call189 (U_Contains hr (h1.le hM) hb)) fun r M2 C h => h
  · exact (InvSp.of_sp (fun w => meth_114_Contains _ w) Tryz.call164 (S_Contains hr (h1.le hM) hb)).mono fun r M2 C ⟨h1, h2⟩ => ⟨[], h1, h2, rfl⟩

set_option maxRecDepth 100000 in
set_option maxHeartbeats 4000000 in
theorem U_ContainsAny {M : Hp} {v0 : Value} {c0 : List Int} (h0 : RdSU 145 M v0 c0) {v1 : Value} {l1 : List Int} (h1 : RdI M v1 l1)(b0 : c0.length ≤ 1000000000)  :
    Pu Tryz.prog (.func (.func 190) #[] #[]) M [v0, v1] (fun r M' => r = .bool (any' l1 c0)) := by
  refine Pu_enter Tryz.func190 rfl Tryz.ntmps190 rfl Tryz.call190 ?_
  intro a w M1 H hM1 S E
  replace h0 := h0.le hM1
  replace h1 := h1.le hM1
  have b1 := h1.bound
  refine WP_seq ?_
  refine WP_region ?_
  refine S_v E rfl (R_assign E rfl) rfl ?_
  clear E a; intro a E
  refine WL_nil ?_
  refine T_n ?_
  refine WP_seq ?_
  refine WP_seq ?_
  refine WP_region ?_
  refine S_v E rfl (R_move E rfl) rfl ?_
  clear E a; intro a E
  refine S_v E rfl (R_lenV E rfl T22 h1.len) rfl ?_
  clear E a; intro a E
  refine S_v E rfl (R_move E rfl) rfl ?_
  clear E a; intro a E
  refine WL_nil ?_
  refine T_n ?_
  refine WP_block ?_
  refine WP_loop (γ := Nat) (fun (k : Nat) a w => ∃ (M_1 : Hp), Hp.le M1 M_1 ∧ St w M_1 (H) ∧ Env a 25 [] [(0, v0), (9, v1), (10, .int .i64 (((l1).length : Nat) : Int)), (11, .int .i64 ((k : Nat) : Int))] ∧ (k ≤ (l1).length) ∧ (∀ z ∈ l1.take k, z ∉ c0)) (fun k => ((l1).length) - k) 0 ⟨M1, Hp.le.refl _, S, E.keep ⟨rfl, rfl, rfl, rfl, trivial⟩, by ((try clear S); (try clear E); first | assumption | omega | rfl | (simp; done) | (simp_all; done) | (simp [List.take_add_one, *]; done) | grind [List.take_add_one]), by ((try clear S); (try clear E); first | assumption | omega | rfl | (simp; done) | (simp_all; done) | (simp [List.take_add_one, *]; done) | grind [List.take_add_one])⟩ ?_
  try clear E
  try clear S
  try clear a
  try clear w
  rintro k a w ⟨M_1, hM_1, S, E, hL0_0, hL0_1⟩
  replace h0 := h0.le hM_1
  replace h1 := h1.le hM_1
  refine WP_seq ?_
  refine WP_region ?_
  refine S_v E rfl (R_lss E rfl rfl) rfl ?_
  clear E a; intro a E
  refine WL_nil ?_
  refine T_n ?_
  refine WP_seq ?_
  refine WP_cond E rfl (fun hc_2 => ?_) (fun hc_2 => ?_)
  · replace hc_2 := of_decide_eq_true hc_2
    refine WP_skip ?_
    refine T_n ?_
    refine WP_seq ?_
    refine WP_block ?_
    refine WP_seq ?_
    refine WP_region ?_
    obtain ⟨x_3, hx_3⟩ : ∃ x, (l1)[k]? = some x := ⟨_, List.getElem?_eq_getElem (by first | omega | (simp; done) | (simp; omega) | (simp_all; omega))⟩
    obtain ⟨p_4, hp_4, qp_4⟩ := h1.at hx_3
    refine S_v E rfl (R_idx E rfl rfl T22 hp_4 rfl) rfl ?_
    clear E a; intro a E
    refine S_v E rfl (R_loadM E rfl Tryz.isAgg3 S.imm qp_4) rfl ?_
    clear E a; intro a E
    refine S_v E rfl (R_assign E rfl) rfl ?_
    clear E a; intro a E
    refine WL_nil ?_
    refine T_n ?_
    refine WP_seq ?_
    refine WP_region ?_
    refine S_v E rfl (R_move E rfl) rfl ?_
    clear E a; intro a E
    have hset := h0
    obtain ⟨sb0, sm0, sq0, se0, shb0, shm0, shn0, shq0⟩ := hset
    have shq0l : sq0.length ≤ c0.length := nodup_len shn0 fun z hz => (shq0 z).1 hz
    refine S_v E rfl (R_nilCheck E rfl se0) rfl ?_
    clear E a; intro a E
    refine S_v E rfl (R_loadM E (congrArg some se0) Tryz.isAgg145 S.imm (cellM_box shb0)) rfl ?_
    clear E a; intro a E
    refine S_v E rfl (R_move E rfl) rfl ?_
    clear E a; intro a E
    refine S_v E rfl (R_lookupFS S.imm shm0 E MT145 rfl rfl) rfl ?_
    clear E a; intro a E
    refine S_v E rfl (R_move E rfl) rfl ?_
    clear E a; intro a E
    refine S_v E rfl (R_extract E rfl rfl) rfl ?_
    clear E a; intro a E
    refine S_v E rfl (R_extract E rfl rfl) rfl ?_
    clear E a; intro a E
    refine S_x (X_alloc (cs := #[]) E S rfl Tryz.zeroValue104 rfl ?_)
    clear E a S; rintro a w b_5 E S
    refine S_x0 (X_storeG (us := []) E S rfl rfl (Tryz.sizeOf104 _) rfl (by intro u hu; cases hu) ?_)
    clear E a S; rintro a w E S
    replace S : St w M_1 (blk b_5 (.cells #[] 104) :: _) := S
    have S0 := S; clear S
    obtain ⟨M_6, hM_6, hb_7, S⟩ := S0.freezeB
    clear S0
    replace h0 := h0.le hM_6
    replace h1 := h1.le hM_6
    replace shb0 := hM_6.2 _ _ shb0
    replace shm0 := shm0.le hM_6
    refine S_v E rfl (R_assign E rfl) rfl ?_
    clear E a; intro a E
    refine WL_nil ?_
    refine T_n ?_
    refine WP_seq ?_
    refine WP_region ?_
    refine S_v E rfl (R_move E rfl) rfl ?_
    clear E a; intro a E
    refine WL_nil ?_
    refine T_n ?_
    refine WP_cond E rfl (fun hc_8 => ?_) (fun hc_8 => ?_)
    · replace hc_8 := of_decide_eq_true hc_8
      refine WP_seq ?_
      refine WP_region ?_
      refine S_v E rfl (R_assign E rfl) rfl ?_
      clear E a; intro a E
      refine WL_nil ?_
      refine T_n ?_
      refine WP_ret ?_
      refine B_r ?_
      refine T_r ?_
      refine T_r ?_
      refine B_r ?_
      refine T_r ?_
      exact F_ret1 E Tryz.results190 rfl ⟨_, rfl, M_6, (hM_1.trans hM_6), (congrArg Value.bool (by (first | exact (any_none (by assumption) (by omega)).symm | exact (any_t1 (by assumption) (by simp_all)).symm))), S⟩
    · replace hc_8 := of_decide_eq_false hc_8
      refine WP_skip ?_
      refine B_n ?_
      refine T_n ?_
      refine WP_region ?_
      refine S_v E rfl (R_addx (m := ((k + 1 : Nat) : Int)) E rfl rfl (by omega) (by omega)) rfl ?_
      clear E a; intro a E
      refine S_v E rfl (R_move E rfl) rfl ?_
      clear E a; intro a E
      refine WL_nil ?_
      refine T_n ?_
      exact ⟨k + 1, ⟨M_6, (hM_1.trans hM_6), S, E.keep ⟨rfl, rfl, rfl, rfl, trivial⟩, by ((try clear S); (try clear E); first | assumption | omega | rfl | (simp; done) | (simp_all; done) | (simp [List.take_add_one, *]; done) | grind [List.take_add_one]), by ((try clear S); (try clear E); first | assumption | omega | rfl | (simp; done) | (simp_all; done) | (simp [List.take_add_one, *]; done) | grind [List.take_add_one])⟩, by omega⟩
  · replace hc_2 := of_decide_eq_false hc_2
    refine WP_exit ?_
    refine T_x ?_
    refine T_x ?_
    refine B_x ?_
    refine T_n ?_
    refine WP_seq ?_
    refine WP_region ?_
    refine S_v E rfl (R_assign E rfl) rfl ?_
    clear E a; intro a E
    refine WL_nil ?_
    refine T_n ?_
    refine WP_ret ?_
    exact F_ret1 E Tryz.results190 rfl ⟨_, rfl, M_1, hM_1, (congrArg Value.bool (by (first | exact (any_none (by assumption) (by omega)).symm | exact (any_t1 (by assumption) (by simp_all)).symm))), S⟩

set_option maxRecDepth 100000 in
set_option maxHeartbeats 4000000 in
theorem S_ContainsAny {M : Hp} {p0 : Nat} {v0 : Value} {c0 : List Int} (h0 : RdSU 145 M v0 c0) {v1 : Value} {l1 : List Int} (h1 : RdI M v1 l1)(b0 : c0.length ≤ 1000000000)  :
    Sp Tryz.prog (.func (.func 165) #[] #[]) M [.pointer (some ⟨p0, 0, none⟩), v1] [blk p0 (.cells #[.int .i32 0, .int .u32 0, .int .u32 0, .int .u32 0, .int .i32 0, .int .i32 0, v0] 144)] (fun r M' C' => C' = [blk p0 (.cells #[.int .i32 0, .int .u32 0, .int .u32 0, .int .u32 0, .int .i32 0, .int .i32 0, v0] 144)] ∧ (r = .bool (any' l1 c0))) := by
  refine Sp_enter Tryz.func165 rfl Tryz.ntmps165 rfl Tryz.call165 ?_
  intro a w M1 H hM1 S E
  replace S : St w M1 (blk p0 (.cells #[.int .i32 0, .int .u32 0, .int .u32 0, .int .u32 0, .int .i32 0, .int .i32 0, v0] 144) :: _) := S
  replace h0 := h0.le hM1
  replace h1 := h1.le hM1
  have hset := h0
  obtain ⟨sb0, sm0, sq0, se0, shb0, shm0, shn0, shq0⟩ := hset
  have shq0l : sq0.length ≤ c0.length := nodup_len shn0 fun z hz => (shq0 z).1 hz
  refine WP_seq ?_
  refine WP_region ?_
  refine S_v E rfl (R_assign E rfl) rfl ?_
  clear E a; intro a E
  refine WL_nil ?_
  refine T_n ?_
  refine WP_seq ?_
  refine WP_region ?_
  refine S_v E rfl (R_move E rfl) rfl ?_
  clear E a; intro a E
  refine S_v E rfl (R_nilCheck E rfl rfl) rfl ?_
  clear E a; intro a E
  refine S_v E rfl (R_fieldAddr E rfl (FA144_0 _)) rfl ?_
  clear E a; intro a E
  replace S : St w M1 (LK p0 144 0 v0 :: _) := S
  refine S_x (X_sp (p := [LK p0 144 0 v0]) E S rfl rfl rfl (rlock_sp Tryz.rwRLib (T := 144) (n := 0) (by decide) (by decide)) (Hp.le.refl _) ?_)
  clear E a S; rintro a _ w M_1 _ hM_1 ⟨rfl, rfl⟩ S E
  replace S : St w M_1 (blk p0 (.cells #[.int .i32 0, .int .u32 0, .int .u32 0, .int .u32 0, .int .i32 1, .int .i32 0, v0] 144) :: H) := S
  replace h0 := h0.le hM_1
  replace h1 := h1.le hM_1
  replace shb0 := hM_1.2 _ _ shb0
  replace shm0 := shm0.le hM_1
  refine WL_nil ?_
  refine T_n ?_
  refine WP_seq ?_
  refine WP_region ?_
  refine S_v E rfl (R_move E rfl) rfl ?_
  clear E a; intro a E
  refine S_v E rfl (R_nilCheck E rfl rfl) rfl ?_
  clear E a; intro a E
  refine S_v E rfl (R_fieldAddr E rfl (FA144_1 _)) rfl ?_
  clear E a; intro a E
  refine S_v E rfl (R_load E rfl (Tryz.isAgg116 _) (cell_blkf (S.mem (.head _)) rfl)) rfl ?_
  clear E a; intro a E
  refine S_v E rfl (R_move E rfl) rfl ?_
  clear E a; intro a E
  refine S_x (X_pu E S rfl rfl rfl (U_ContainsAny h0 h1 (by first | assumption | omega)) (Hp.le.refl _) ?_)
  clear E a S; rintro a _ w M_2 hM_2 rfl S E
  replace h0 := h0.le hM_2
  replace h1 := h1.le hM_2
  replace shb0 := hM_2.2 _ _ shb0
  replace shm0 := shm0.le hM_2
  refine S_v E rfl (R_assign E rfl) rfl ?_
  clear E a; intro a E
  refine WL_nil ?_
  refine T_n ?_
  refine WP_seq ?_
  refine WP_region ?_
  refine S_v E rfl (R_move E rfl) rfl ?_
  clear E a; intro a E
  refine S_v E rfl (R_nilCheck E rfl rfl) rfl ?_
  clear E a; intro a E
  refine S_v E rfl (R_fieldAddr E rfl (FA144_0 _)) rfl ?_
  clear E a; intro a E
  replace S : St w M_2 (LK p0 144 (0 + 1) v0 :: _) := S
  refine S_x (X_sp (p := [LK p0 144 (0 + 1) v0]) E S rfl rfl rfl (runlock_sp Tryz.rwRLib (T := 144) (n := 0) (by decide) (by decide)) (Hp.le.refl _) ?_)
  clear E a S; rintro a _ w M_3 _ hM_3 ⟨rfl, rfl⟩ S E
  replace S : St w M_3 (blk p0 (.cells #[.int .i32 0, .int .u32 0, .int .u32 0, .int .u32 0, .int .i32 0, .int .i32 0, v0] 144) :: H) := S
  replace h0 := h0.le hM_3
  replace h1 := h1.le hM_3
  replace shb0 := hM_3.2 _ _ shb0
  replace shm0 := shm0.le hM_3
  refine WL_nil ?_
  refine T_n ?_
  refine WP_seq ?_
  refine WP_region ?_
  refine S_v E rfl (R_move E rfl) rfl ?_
  clear E a; intro a E
  refine S_v E rfl (R_assign E rfl) rfl ?_
  clear E a; intro a E
  refine WL_nil ?_
  refine T_n ?_
  refine WP_ret ?_
  exact F_ret1 E Tryz.results165 rfl ⟨_, rfl, M_3, _, (hM_1.trans (hM_2.trans hM_3)), ⟨rfl, rfl⟩, S⟩

set_option maxRecDepth 100000 in
set_option maxHeartbeats 4000000 in
theorem reg_ContainsAny {M : Hp} {x0 : Bool} {v : Value} {t : List RG} {i : Nat} {x : RG} {v1 : Value} {l1 : List Int} (hx : t[i]? = some x) (h1 : RdI M v1 l1) (hb : x.2.2.length ≤ 1000000000) :
    InvSp Tryz.prog (ifv KS x0 x) "ContainsAny" M [v1] [Regs KS x0 v t] (fun r _ C' => ∃ D, C' = Regs KS x0 v t :: D ∧ (r = (.bool (any' l1 x.2.2)) ∧ D = [])) := by
  refine reg_look1 hx fun M' hM hr => ?_
  cases x0
  · exact lookU (F := [lkI KS false x]) (InvSp.of_pu (fun w => meth_116_ContainsAny _ w) Tryz.call190 (U_ContainsAny hr (h1.le hM) hb)) fun r M2 C h => h
  · exact (InvSp.of_sp (fun w => meth_114_ContainsAny _ w) Tryz.call165 (S_ContainsAny hr (h1.le hM) hb)).mono fun r M2 C ⟨h1, h2⟩ => ⟨[], h1, h2, rfl⟩

set_option maxRecDepth 100000 in
set_option maxHeartbeats 4000000 in
theorem U_ContainsOne {M : Hp} {v0 : Value} {c0 : List Int} (h0 : RdSU 145 M v0 c0) {x1 : Int} (b0 : c0.length ≤ 1000000000)  :
    Pu Tryz.prog (.func (.func 192) #[] #[]) M [v0, .int .i64 x1] (fun r M' => r = .bool (decide (x1 ∈ c0))) := by
  refine Pu_enter Tryz.func192 rfl Tryz.ntmps192 rfl Tryz.call192 ?_
  intro a w M1 H hM1 S E
  replace h0 := h0.le hM1
  refine WP_seq ?_
  refine WP_region ?_
  refine S_v E rfl (R_assign E rfl) rfl ?_
  clear E a; intro a E
  refine WL_nil ?_
  refine T_n ?_
  refine WP_seq ?_
  refine WP_region ?_
  refine S_v E rfl (R_move E rfl) rfl ?_
  clear E a; intro a E
  have hset := h0
  obtain ⟨sb0, sm0, sq0, se0, shb0, shm0, shn0, shq0⟩ := hset
  have shq0l : sq0.length ≤ c0.length := nodup_len shn0 fun z hz => (shq0 z).1 hz
  refine S_v E rfl (R_nilCheck E rfl se0) rfl ?_
  clear E a; intro a E
  refine S_v E rfl (R_loadM E (congrArg some se0) Tryz.isAgg145 S.imm (cellM_box shb0)) rfl ?_
  clear E a; intro a E
  refine S_v E rfl (R_move E rfl) rfl ?_
  clear E a; intro a E
  refine S_v E rfl (R_lookupFS S.imm shm0 E MT145 rfl rfl) rfl ?_
  clear E a; intro a E
  refine S_v E rfl (R_move E rfl) rfl ?_
  clear E a; intro a E
  refine S_v E rfl (R_extract E rfl rfl) rfl ?_
  clear E a; intro a E
  refine S_v E rfl (R_extract E rfl rfl) rfl ?_
  clear E a; intro a E
  refine S_x (X_alloc (cs := #[]) E S rfl Tryz.zeroValue104 rfl ?_)
  clear E a S; rintro a w b_1 E S
  refine S_x0 (X_storeG (us := []) E S rfl rfl (Tryz.sizeOf104 _) rfl (by intro u hu; cases hu) ?_)
  clear E a S; rintro a w E S
  replace S : St w M1 (blk b_1 (.cells #[] 104) :: _) := S
  have S0 := S; clear S
  obtain ⟨M_2, hM_2, hb_3, S⟩ := S0.freezeB
  clear S0
  replace h0 := h0.le hM_2
  replace shb0 := hM_2.2 _ _ shb0
  replace shm0 := shm0.le hM_2
  refine S_v E rfl (R_assign E rfl) rfl ?_
  clear E a; intro a E
  refine WL_nil ?_
  refine T_n ?_
  refine WP_seq ?_
  refine WP_region ?_
  refine S_v E rfl (R_move E rfl) rfl ?_
  clear E a; intro a E
  refine S_v E rfl (R_assign E rfl) rfl ?_
  clear E a; intro a E
  refine WL_nil ?_
  refine T_n ?_
  refine WP_ret ?_
  exact F_ret1 E Tryz.results192 rfl ⟨_, rfl, M_2, hM_2, (congrArg Value.bool (by (simp [*]; done))), S⟩

set_option maxRecDepth 100000 in
set_option maxHeartbeats 4000000 in
theorem S_ContainsOne {M : Hp} {p0 : Nat} {v0 : Value} {c0 : List Int} (h0 : RdSU 145 M v0 c0) {x1 : Int} (b0 : c0.length ≤ 1000000000)  :
    Sp Tryz.prog (.func (.func 167) #[] #[]) M [.pointer (some ⟨p0, 0, none⟩), .int .i64 x1] [blk p0 (.cells #[.int .i32 0, .int .u32 0, .int .u32 0, .int .u32 0, .int .i32 0, .int .i32 0, v0] 144)] (fun r M' C' => C' = [blk p0 (.cells #[.int .i32 0, .int .u32 0, .int .u32 0, .int .u32 0, .int .i32 0, .int .i32 0, v0] 144)] ∧ (r = .bool (decide (x1 ∈ c0)))) := by
  refine Sp_enter Tryz.func167 rfl Tryz.ntmps167 rfl Tryz.call167 ?_
  intro a w M1 H hM1 S E
  replace S : St w M1 (blk p0 (.cells #[.int .i32 0, .int .u32 0, .int .u32 0, .int .u32 0, .int .i32 0, .int .i32 0, v0] 144) :: _) := S
  replace h0 := h0.le hM1
  have hset := h0
  obtain ⟨sb0, sm0, sq0, se0, shb0, shm0, shn0, shq0⟩ := hset
  have shq0l : sq0.length ≤ c0.length := nodup_len shn0 fun z hz => (shq0 z).1 hz
  refine WP_seq ?_
  refine WP_region ?_
  refine S_v E rfl (R_assign E rfl) rfl ?_
  clear E a; intro a E
  refine WL_nil ?_
  refine T_n ?_
  refine WP_seq ?_
  refine WP_region ?_
  refine S_v E rfl (R_move E rfl) rfl ?_
  clear E a; intro a E
  refine S_v E rfl (R_nilCheck E rfl rfl) rfl ?_
  clear E a; intro a E
  refine S_v E rfl (R_fieldAddr E rfl (FA144_0 _)) rfl ?_
  clear E a; intro a E
  replace S : St w M1 (LK p0 144 0 v0 :: _) := S
  refine S_x (X_sp (p := [LK p0 144 0 v0]) E S rfl rfl rfl (rlock_sp Tryz.rwRLib (T := 144) (n := 0) (by decide) (by decide)) (Hp.le.refl _) ?_)
  clear E a S; rintro a _ w M_1 _ hM_1 ⟨rfl, rfl⟩ S E
  replace S : St w M_1 (blk p0 (.cells #[.int .i32 0, .int .u32 0, .int .u32 0, .int .u32 0, .int .i32 1, .int .i32 0, v0] 144) :: H) := S
  replace h0 := h0.le hM_1
  replace shb0 := hM_1.2 _ _ shb0
  replace shm0 := shm0.le hM_1
  refine WL_nil ?_
  refine T_n ?_
  refine WP_seq ?_
  refine WP_region ?_
  refine S_v E rfl (R_move E rfl) rfl ?_
  clear E a; intro a E
  refine S_v E rfl (R_nilCheck E rfl rfl) rfl ?_
  clear E a; intro a E
  refine S_v E rfl (R_fieldAddr E rfl (FA144_1 _)) rfl ?_
  clear E a; intro a E
  refine S_v E rfl (R_load E rfl (Tryz.isAgg116 _) (cell_blkf (S.mem (.head _)) rfl)) rfl ?_
  clear E a; intro a E
  refine S_v E rfl (R_move E rfl) rfl ?_
  clear E a; intro a E
  refine S_x (X_pu E S rfl rfl rfl (U_ContainsOne h0 (by first | assumption | omega)) (Hp.le.refl _) ?_)
  clear E a S; rintro a _ w M_2 hM_2 rfl S E
  replace h0 := h0.le hM_2
  replace shb0 := hM_2.2 _ _ shb0
  replace shm0 := shm0.le hM_2
  refine S_v E rfl (R_assign E rfl) rfl ?_
  clear E a; intro a E
  refine WL_nil ?_
  refine T_n ?_
  refine WP_seq ?_
  refine WP_region ?_
  refine S_v E rfl (R_move E rfl) rfl ?_
  clear E a; intro a E
  refine S_v E rfl (R_nilCheck E rfl rfl) rfl ?_
  clear E a; intro a E
  refine S_v E rfl (R_fieldAddr E rfl (FA144_0 _)) rfl ?_
  clear E a; intro a E
  replace S : St w M_2 (LK p0 144 (0 + 1) v0 :: _) := S
  refine S_x (X_sp (p := [LK p0 144 (0 + 1) v0]) E S rfl rfl rfl (runlock_sp Tryz.rwRLib (T := 144) (n := 0) (by decide) (by decide)) (Hp.le.refl _) ?_)
  clear E a S; rintro a _ w M_3 _ hM_3 ⟨rfl, rfl⟩ S E
  replace S : St w M_3 (blk p0 (.cells #[.int .i32 0, .int .u32 0, .int .u32 0, .int .u32 0, .int .i32 0, .int .i32 0, v0] 144) :: H) := S
  replace h0 := h0.le hM_3
  replace shb0 := hM_3.2 _ _ shb0
  replace shm0 := shm0.le hM_3
  refine WL_nil ?_
  refine T_n ?_
  refine WP_seq ?_
  refine WP_region ?_
  refine S_v E rfl (R_move E rfl) rfl ?_
  clear E a; intro a E
  refine S_v E rfl (R_assign E rfl) rfl ?_
  clear E a; intro a E
  refine WL_nil ?_
  refine T_n ?_
  refine WP_ret ?_
  exact F_ret1 E Tryz.results167 rfl ⟨_, rfl, M_3, _, (hM_1.trans (hM_2.trans hM_3)), ⟨rfl, rfl⟩, S⟩

set_option maxRecDepth 100000 in
set_option maxHeartbeats 4000000 in
theorem reg_ContainsOne {M : Hp} {x0 : Bool} {v : Value} {t : List RG} {i : Nat} {x : RG} {a : Int} (hx : t[i]? = some x) (hb : x.2.2.length ≤ 1000000000) :
    InvSp Tryz.prog (ifv KS x0 x) "ContainsOne" M [.int .i64 a] [Regs KS x0 v t] (fun r _ C' => ∃ D, C' = Regs KS x0 v t :: D ∧ (r = (.bool (decide (a ∈ x.2.2))) ∧ D = [])) := by
  refine reg_look1 hx fun M' hM hr => ?_
  cases x0
  · exact lookU (F := [lkI KS false x]) (InvSp.of_pu (fun w => meth_116_ContainsOne _ w) Tryz.call192 (U_ContainsOne hr hb)) fun r M2 C h => h
  · exact (InvSp.of_sp (fun w => meth_114_ContainsOne _ w) Tryz.call167 (S_ContainsOne hr hb)).mono fun r M2 C ⟨h1, h2⟩ => ⟨[], h1, h2, rfl⟩

set_option maxRecDepth 100000 in
set_option maxHeartbeats 4000000 in
theorem S_Cardinality {M : Hp} {p0 : Nat} {v0 : Value} {c0 : List Int} (h0 : RdSU 145 M v0 c0) (b0 : c0.length ≤ 1000000000)  :
    Sp Tryz.prog (.func (.func 161) #[] #[]) M [.pointer (some ⟨p0, 0, none⟩)] [blk p0 (.cells #[.int .i32 0, .int .u32 0, .int .u32 0, .int .u32 0, .int .i32 0, .int .i32 0, v0] 144)] (fun r M' C' => C' = [blk p0 (.cells #[.int .i32 0, .int .u32 0, .int .u32 0, .int .u32 0, .int .i32 0, .int .i32 0, v0] 144)] ∧ (r = .int .i64 ((card c0 : Nat) : Int))) := by
  refine Sp_enter Tryz.func161 rfl Tryz.ntmps161 rfl Tryz.call161 ?_
  intro a w M1 H hM1 S E
  replace S : St w M1 (blk p0 (.cells #[.int .i32 0, .int .u32 0, .int .u32 0, .int .u32 0, .int .i32 0, .int .i32 0, v0] 144) :: _) := S
  replace h0 := h0.le hM1
  have hset := h0
  obtain ⟨sb0, sm0, sq0, se0, shb0, shm0, shn0, shq0⟩ := hset
  have shq0l : sq0.length ≤ c0.length := nodup_len shn0 fun z hz => (shq0 z).1 hz
  refine WP_seq ?_
  refine WP_region ?_
  refine S_v E rfl (R_assign E rfl) rfl ?_
  clear E a; intro a E
  refine WL_nil ?_
  refine T_n ?_
  refine WP_seq ?_
  refine WP_region ?_
  refine S_v E rfl (R_move E rfl) rfl ?_
  clear E a; intro a E
  refine S_v E rfl (R_nilCheck E rfl rfl) rfl ?_
  clear E a; intro a E
  refine S_v E rfl (R_fieldAddr E rfl (FA144_0 _)) rfl ?_
  clear E a; intro a E
  replace S : St w M1 (LK p0 144 0 v0 :: _) := S
  refine S_x (X_sp (p := [LK p0 144 0 v0]) E S rfl rfl rfl (rlock_sp Tryz.rwRLib (T := 144) (n := 0) (by decide) (by decide)) (Hp.le.refl _) ?_)
  clear E a S; rintro a _ w M_1 _ hM_1 ⟨rfl, rfl⟩ S E
  replace S : St w M_1 (blk p0 (.cells #[.int .i32 0, .int .u32 0, .int .u32 0, .int .u32 0, .int .i32 1, .int .i32 0, v0] 144) :: H) := S
  replace h0 := h0.le hM_1
  replace shb0 := hM_1.2 _ _ shb0
  replace shm0 := shm0.le hM_1
  refine WL_nil ?_
  refine T_n ?_
  refine WP_seq ?_
  refine WP_region ?_
  refine S_v E rfl (R_move E rfl) rfl ?_
  clear E a; intro a E
  refine S_v E rfl (R_nilCheck E rfl rfl) rfl ?_
  clear E a; intro a E
  refine S_v E rfl (R_fieldAddr E rfl (FA144_0 _)) rfl ?_
  clear E a; intro a E
  refine S_deferA E rfl rfl ?_
  clear E a; intro a E
  replace E : Env a 17 [⟨.fn (.func 186) #[], #[.pointer (some ⟨p0, 0, none⟩)]⟩] _ := E
  refine WL_nil ?_
  refine T_n ?_
  refine WP_seq ?_
  refine WP_region ?_
  refine S_v E rfl (R_move E rfl) rfl ?_
  clear E a; intro a E
  refine S_v E rfl (R_nilCheck E rfl rfl) rfl ?_
  clear E a; intro a E
  refine S_v E rfl (R_fieldAddr E rfl (FA144_1 _)) rfl ?_
  clear E a; intro a E
  refine S_v E rfl (R_load E rfl (Tryz.isAgg116 _) (cell_blkf (S.mem (.head _)) rfl)) rfl ?_
  clear E a; intro a E
  refine S_v E rfl (R_nilCheck E rfl se0) rfl ?_
  clear E a; intro a E
  refine S_v E rfl (R_loadM E (congrArg some se0) Tryz.isAgg145 S.imm (cellM_box shb0)) rfl ?_
  clear E a; intro a E
  refine S_v E rfl ((R_lenF S.imm shm0 E MT145 rfl).trans (by rw [encS_len])) rfl ?_
  clear E a; intro a E
  refine S_v E rfl (R_assign E rfl) rfl ?_
  clear E a; intro a E
  refine WL_nil ?_
  refine T_n ?_
  refine WP_ret ?_
  refine F_retL1 E Tryz.results161 rfl (fun hres => ?_)
  clear E
  replace S : St w M_1 (LK p0 144 (0 + 1) v0 :: _) := S
  refine LV_runlock Tryz.rwRLib (n := 0) (by decide) (by decide) S (fun w S => ?_)
  replace S : St w M_1 (blk p0 (.cells #[.int .i32 0, .int .u32 0, .int .u32 0, .int .u32 0, .int .i32 0, .int .i32 0, v0] 144) :: H) := S
  exact LV_nil (hres _) ⟨_, rfl, M_1, _, hM_1, ⟨rfl, (congrArg (Value.int .i64) (by (congr 1; exact card_eq (by assumption) (by assumption))))⟩, S⟩

set_option maxRecDepth 100000 in
set_option maxHeartbeats 4000000 in
theorem reg_Cardinality {M : Hp} {x0 : Bool} {v : Value} {t : List RG} {i : Nat} {x : RG} (hx : t[i]? = some x) (hb : x.2.2.length ≤ 1000000000) :
    InvSp Tryz.prog (ifv KS x0 x) "Cardinality" M [] [Regs KS x0 v t] (fun r _ C' => ∃ D, C' = Regs KS x0 v t :: D ∧ (r = (.int .i64 ((card x.2.2 : Nat) : Int)) ∧ D = [])) := by
  refine reg_look1 hx fun M' hM hr => ?_
  cases x0
  · exact lookU (F := [lkI KS false x]) (InvSp.of_pu (fun w => meth_116_Cardinality _ w) Tryz.call205 (U_Cardinality hr hb)) fun r M2 C h => h
  · exact (InvSp.of_sp (fun w => meth_114_Cardinality _ w) Tryz.call161 (S_Cardinality hr hb)).mono fun r M2 C ⟨h1, h2⟩ => ⟨[], h1, h2, rfl⟩

set_option maxRecDepth 100000 in
set_option maxHeartbeats 4000000 in
theorem U_IsEmpty {M : Hp} {v0 : Value} {c0 : List Int} (h0 : RdSU 145 M v0 c0) (b0 : c0.length ≤ 1000000000)  :
    Pu Tryz.prog (.func (.func 209) #[] #[]) M [v0] (fun r M' => r = .bool (decide (((card c0 : Nat) : Int) = 0))) := by
  refine Pu_enter Tryz.func209 rfl Tryz.ntmps209 rfl Tryz.call209 ?_
  intro a w M1 H hM1 S E
  replace h0 := h0.le hM1
  refine WP_seq ?_
  refine WP_region ?_
  refine S_v E rfl (R_assign E rfl) rfl ?_
  clear E a; intro a E
  refine WL_nil ?_
  refine T_n ?_
  refine WP_seq ?_
  refine WP_region ?_
  refine S_v E rfl (R_move E rfl) rfl ?_
  clear E a; intro a E
  refine S_x (X_pu E S rfl rfl rfl (U_Cardinality h0 (by first | assumption | omega)) (Hp.le.refl _) ?_)
  clear E a S; rintro a _ w M_1 hM_1 rfl S E
  replace h0 := h0.le hM_1
  refine S_v E rfl (R_eql E rfl rfl) rfl ?_
  clear E a; intro a E
  refine S_v E rfl (R_assign E rfl) rfl ?_
  clear E a; intro a E
  refine WL_nil ?_
  refine T_n ?_
  refine WP_ret ?_
  exact F_ret1 E Tryz.results209 rfl ⟨_, rfl, M_1, hM_1, rfl, S⟩

set_option maxRecDepth 100000 in
set_option maxHeartbeats 4000000 in
theorem S_IsEmpty {M : Hp} {p0 : Nat} {v0 : Value} {c0 : List Int} (h0 : RdSU 145 M v0 c0) (b0 : c0.length ≤ 1000000000)  :
    Sp Tryz.prog (.func (.func 172) #[] #[]) M [.pointer (some ⟨p0, 0, none⟩)] [blk p0 (.cells #[.int .i32 0, .int .u32 0, .int .u32 0, .int .u32 0, .int .i32 0, .int .i32 0, v0] 144)] (fun r M' C' => C' = [blk p0 (.cells #[.int .i32 0, .int .u32 0, .int .u32 0, .int .u32 0, .int .i32 0, .int .i32 0, v0] 144)] ∧ (r = .bool (decide (((card c0 : Nat) : Int) = 0)))) := by
  refine Sp_enter Tryz.func172 rfl Tryz.ntmps172 rfl Tryz.call172 ?_
  intro a w M1 H hM1 S E
  replace S : St w M1 (blk p0 (.cells #[.int .i32 0, .int .u32 0, .int .u32 0, .int .u32 0, .int .i32 0, .int .i32 0, v0] 144) :: _) := S
  replace h0 := h0.le hM1
  have hset := h0
  obtain ⟨sb0, sm0, sq0, se0, shb0, shm0, shn0, shq0⟩ := hset
  have shq0l : sq0.length ≤ c0.length := nodup_len shn0 fun z hz => (shq0 z).1 hz
  refine WP_seq ?_
  refine WP_region ?_
  refine S_v E rfl (R_assign E rfl) rfl ?_
  clear E a; intro a E
  refine WL_nil ?_
  refine T_n ?_
  refine WP_seq ?_
  refine WP_region ?_
  refine S_v E rfl (R_move E rfl) rfl ?_
  clear E a; intro a E
  refine S_x (X_sp (p := [blk p0 (.cells #[.int .i32 0, .int .u32 0, .int .u32 0, .int .u32 0, .int .i32 0, .int .i32 0, v0] 144)]) E S rfl rfl rfl (S_Cardinality h0 (by first | assumption | omega)) (Hp.le.refl _) ?_)
  clear E a S; rintro a _ w M_1 _ hM_1 ⟨rfl, rfl⟩ S E
  replace S : St w M_1 (blk p0 (.cells #[.int .i32 0, .int .u32 0, .int .u32 0, .int .u32 0, .int .i32 0, .int .i32 0, v0] 144) :: H) := S
  replace h0 := h0.le hM_1
  replace shb0 := hM_1.2 _ _ shb0
  replace shm0 := shm0.le hM_1
  refine S_v E rfl (R_eql E rfl rfl) rfl ?_
  clear E a; intro a E
  refine S_v E rfl (R_assign E rfl) rfl ?_
  clear E a; intro a E
  refine WL_nil ?_
  refine T_n ?_
  refine WP_ret ?_
  exact F_ret1 E Tryz.results172 rfl ⟨_, rfl, M_1, _, hM_1, ⟨rfl, rfl⟩, S⟩

set_option maxRecDepth 100000 in
set_option maxHeartbeats 4000000 in
theorem reg_IsEmpty {M : Hp} {x0 : Bool} {v : Value} {t : List RG} {i : Nat} {x : RG} (hx : t[i]? = some x) (hb : x.2.2.length ≤ 1000000000) :
    InvSp Tryz.prog (ifv KS x0 x) "IsEmpty" M [] [Regs KS x0 v t] (fun r _ C' => ∃ D, C' = Regs KS x0 v t :: D ∧ (r = (.bool (decide (((card x.2.2 : Nat) : Int) = 0))) ∧ D = [])) := by
  refine reg_look1 hx fun M' hM hr => ?_
  cases x0
  · exact lookU (F := [lkI KS false x]) (InvSp.of_pu (fun w => meth_116_IsEmpty _ w) Tryz.call209 (U_IsEmpty hr hb)) fun r M2 C h => h
  · exact (InvSp.of_sp (fun w => meth_114_IsEmpty _ w) Tryz.call172 (S_IsEmpty hr hb)).mono fun r M2 C ⟨h1, h2⟩ => ⟨[], h1, h2, rfl⟩

set_option maxRecDepth 100000 in
set_option maxHeartbeats 4000000 in
theorem U_ToSlice {M : Hp} {m0 : Value} {q0 c0 : List Int} (hm0 : RdM M m0 (Sl.encS q0)) (hn0 : q0.Nodup) (hq0 : ∀ x, x ∈ q0 ↔ x ∈ c0) (b0 : c0.length ≤ 1000000000)  :
    Sp Tryz.prog (.func (.func 213) #[] #[]) M [m0] [] (fun r M' C' => ∃ l, C' = [OwnI 3 r l] ∧ l.Nodup ∧ ∀ x, x ∈ l ↔ x ∈ c0) := by
  refine Sp_enter Tryz.func213 rfl Tryz.ntmps213 rfl Tryz.call213 ?_
  intro a w M1 H hM1 S E
  replace hm0 := hm0.le hM1
  have hql0 : q0.length ≤ c0.length := nodup_len hn0 fun z hz => (hq0 z).1 hz
  have hcl0 := card_le c0
  refine WP_seq ?_
  refine WP_region ?_
  refine S_x (X_box (cs := #[m0]) E S rfl rfl (cells_one (RdM.one' hm0)) ?_)
  clear E a S; rintro a w b_1 E S
  obtain ⟨M_2, hM_2, hb_1, S⟩ := S.freezeB
  replace hm0 := hm0.le hM_2
  refine S_v E rfl (R_assign E rfl) rfl ?_
  clear E a; intro a E
  refine WL_nil ?_
  refine T_n ?_
  refine WP_seq ?_
  refine WP_region ?_
  refine S_x (X_pu E S rfl rfl rfl (U_Cardinality (⟨_, _, _, rfl, hb_1, hm0, hn0, hq0⟩ : RdSU 145 M_2 (.pointer (some ⟨b_1, 0, none⟩)) c0) (by first | assumption | omega)) (Hp.le.refl _) ?_)
  clear E a S; rintro a _ w M_3 hM_3 rfl S E
  replace hm0 := hm0.le hM_3
  replace hb_1 := hM_3.2 _ _ hb_1
  refine S_x (X_make0 (k := card c0) E S rfl rfl rfl T22 rfl (by omega) (by omega) (by omega) ?_)
  clear E a S; rintro a w v_4 E S
  replace S := S.made0
  refine S_v E rfl (R_assign E rfl) rfl ?_
  clear E a; intro a E
  refine WL_nil ?_
  refine T_n ?_
  refine WP_seq ?_
  refine WP_seq ?_
  refine WP_region ?_
  refine S_v E rfl (R_loadM E rfl Tryz.isAgg145 S.imm (cellM_box hb_1)) rfl ?_
  clear E a; intro a E
  refine S_x (X_range E S rfl MT145 hm0 rfl ?_)
  clear E a S; rintro a w i_5 es_6 ck_7 E hf_8 S
  replace S : St w M_3 (ItO m0 es_6 ck_7 i_5 (Sl.encS ([] : List Int)) :: _) := S
  refine WL_nil ?_
  refine T_n ?_
  refine WP_block ?_
  replace S := S.front1
  replace S := S.front1
  replace S := S.front1
  replace S := S.re1 (l' := []) (by (first | rfl | (simp [addsL_snoc]; done) | (simp [addsL_snoc, List.filter_append, *]; done)))
  replace S := S.front1
  replace S := S.reIt (p' := (Sl.encS [])) (congrArg Sl.encS (show ([] : List Int) = [] by (first | rfl | (simp [addsL_snoc]; done) | (simp [addsL_snoc, List.filter_append, *]; done))))
  refine WP_loop (γ := List Int) (fun (p : List Int) a w => ∃ (M_9 : Hp) (u3 : Value), Hp.le M_3 M_9 ∧ St w M_9 (ItO m0 es_6 ck_7 i_5 (Sl.encS p) :: OwnI 3 u3 p :: H) ∧ Env a 18 [] [(3, u3), (8, .pointer (some ⟨i_5, 0, none⟩))] ∧ (p.Nodup) ∧ (∀ z ∈ p, z ∈ q0) ∧ (p.length ≤ q0.length)) (fun p => q0.length - p.length) [] ⟨M_3, _, Hp.le.refl _, S, E.keep ⟨rfl, rfl, trivial⟩, (by simp), (by simp), (by simp)⟩ ?_
  try clear E
  try clear S
  try clear a
  try clear w
  rintro p a w ⟨M_9, u3, hM_9, S, E, hL0_0, hL0_1, hL0_2⟩
  replace hm0 := hm0.le hM_9
  replace hb_1 := hM_9.2 _ _ hb_1
  replace hf_8 := hf_8.le hM_9
  refine WP_seq ?_
  refine WP_region ?_
  refine S_x (X_nextS E S rfl hf_8 rfl (by assumption) (by assumption) ?_ ?_)
  · clear E a S; rintro a E hpm_10 S
    refine S_v E rfl (R_extract E rfl rfl) rfl ?_
    clear E a; intro a E
    refine WL_nil ?_
    refine T_n ?_
    refine WP_seq ?_
    refine WP_condF E rfl rfl ?_
    refine WP_exit ?_
    refine T_x ?_
    refine T_x ?_
    refine B_x ?_
    refine T_n ?_
    refine WP_seq ?_
    refine WP_region ?_
    refine S_v E rfl (R_move E rfl) rfl ?_
    clear E a; intro a E
    refine S_v E rfl (R_assign E rfl) rfl ?_
    clear E a; intro a E
    refine WL_nil ?_
    refine T_n ?_
    refine WP_ret ?_
    replace S := S.drop
    exact F_ret1 E Tryz.results213 rfl ⟨_, rfl, M_9, _, (hM_2.trans (hM_3.trans hM_9)), ⟨_, rfl, (by assumption), (by (intro x; exact (List.Perm.mem_iff (by first | assumption | (exact List.Perm.symm (by assumption)))).trans (hq0 x)))⟩, S⟩
  · clear E a S w; rintro a w k_11 E hk_12 hk_12n hk_12l S
    refine S_v E rfl (R_extract E rfl rfl) rfl ?_
    clear E a; intro a E
    refine WL_nil ?_
    refine T_n ?_
    refine WP_seq ?_
    refine WP_condT E rfl rfl ?_
    refine WP_skip ?_
    refine T_n ?_
    refine WP_block ?_
    refine WP_seq ?_
    refine WP_region ?_
    refine S_v E rfl (R_entry (k := k_11) (v := .agg #[]) E (by have S1 := S; simp only [Sl.encS, List.map_append, List.map_cons, List.map_nil] at S1; exact S1) hf_8 rfl) rfl ?_
    clear E a; intro a E
    refine S_v E rfl (R_extract E rfl rfl) rfl ?_
    clear E a; intro a E
    refine S_v E rfl (R_assign E rfl) rfl ?_
    clear E a; intro a E
    refine WL_nil ?_
    refine T_n ?_
    refine WP_region ?_
    refine S_v E rfl (R_move E rfl) rfl ?_
    clear E a; intro a E
    refine S_v E rfl (R_move E rfl) rfl ?_
    clear E a; intro a E
    refine S_x (X_buildI (ys := [k_11]) E S rfl T22 rfl rfl rfl ?_)
    clear E a S; rintro a w v_13 E S
    replace S := S.front2
    replace S := S.front1
    refine S_x (X_appendB (xs := p) (ys := [k_11]) E S rfl rfl rfl T22 (by (simp; omega)) ?_)
    clear E a S; rintro a w v_14 E S
    refine S_v E rfl (R_assign E rfl) rfl ?_
    clear E a; intro a E
    refine WL_nil ?_
    refine B_n ?_
    refine T_n ?_
    replace S := S.front1
    replace S := S.front1
    replace S := S.re1 (l' := (p ++ [k_11])) (by (first | rfl | (simp [addsL_snoc]; done) | (simp [addsL_snoc, List.filter_append, *]; done)))
    replace S := S.front1
    replace S := S.reIt (p' := (Sl.encS (p ++ [k_11]))) (congrArg Sl.encS (show p ++ [k_11] = (p ++ [k_11]) by (first | rfl | (simp [addsL_snoc]; done) | (simp [addsL_snoc, List.filter_append, *]; done))))
    exact ⟨(p ++ [k_11]), ⟨M_9, _, hM_9, S, E.keep ⟨rfl, rfl, trivial⟩, (by exact snocN (by assumption) (by assumption)), (by exact snocS (by assumption) (by assumption)), (by simp; omega)⟩, (by simp; omega)⟩

set_option maxRecDepth 100000 in
set_option maxHeartbeats 4000000 in
theorem S_ToSlice {M : Hp} {p0 : Nat} {v0 : Value} {c0 : List Int} (h0 : RdSU 145 M v0 c0) (b0 : c0.length ≤ 1000000000)  :
    Sp Tryz.prog (.func (.func 182) #[] #[]) M [.pointer (some ⟨p0, 0, none⟩)] [blk p0 (.cells #[.int .i32 0, .int .u32 0, .int .u32 0, .int .u32 0, .int .i32 0, .int .i32 0, v0] 144)] (fun r M' C' => ∃ l_, C' = [blk p0 (.cells #[.int .i32 0, .int .u32 0, .int .u32 0, .int .u32 0, .int .i32 0, .int .i32 0, v0] 144), OwnI 3 r l_] ∧ (l_.Nodup) ∧ (∀ x, x ∈ l_ ↔ x ∈ c0)) := by
  refine Sp_enter Tryz.func182 rfl Tryz.ntmps182 rfl Tryz.call182 ?_
  intro a w M1 H hM1 S E
  replace S : St w M1 (blk p0 (.cells #[.int .i32 0, .int .u32 0, .int .u32 0, .int .u32 0, .int .i32 0, .int .i32 0, v0] 144) :: _) := S
  replace h0 := h0.le hM1
  have hset := h0
  obtain ⟨sb0, sm0, sq0, se0, shb0, shm0, shn0, shq0⟩ := hset
  have shq0l : sq0.length ≤ c0.length := nodup_len shn0 fun z hz => (shq0 z).1 hz
  refine WP_seq ?_
  refine WP_region ?_
  refine S_v E rfl (R_assign E rfl) rfl ?_
  clear E a; intro a E
  refine WL_nil ?_
  refine T_n ?_
  refine WP_seq ?_
  refine WP_region ?_
  refine S_v E rfl (R_move E rfl) rfl ?_
  clear E a; intro a E
  refine S_v E rfl (R_nilCheck E rfl rfl) rfl ?_
  clear E a; intro a E
  refine S_v E rfl (R_fieldAddr E rfl (FA144_0 _)) rfl ?_
  clear E a; intro a E
  replace S : St w M1 (LK p0 144 0 v0 :: _) := S
  refine S_x (X_sp (p := [LK p0 144 0 v0]) E S rfl rfl rfl (rlock_sp Tryz.rwRLib (T := 144) (n := 0) (by decide) (by decide)) (Hp.le.refl _) ?_)
  clear E a S; rintro a _ w M_1 _ hM_1 ⟨rfl, rfl⟩ S E
  replace S : St w M_1 (blk p0 (.cells #[.int .i32 0, .int .u32 0, .int .u32 0, .int .u32 0, .int .i32 1, .int .i32 0, v0] 144) :: H) := S
  replace h0 := h0.le hM_1
  replace shb0 := hM_1.2 _ _ shb0
  replace shm0 := shm0.le hM_1
  refine WL_nil ?_
  refine T_n ?_
  refine WP_seq ?_
  refine WP_region ?_
  refine S_v E rfl (R_move E rfl) rfl ?_
  clear E a; intro a E
  refine S_v E rfl (R_nilCheck E rfl rfl) rfl ?_
  clear E a; intro a E
  refine S_v E rfl (R_fieldAddr E rfl (FA144_1 _)) rfl ?_
  clear E a; intro a E
  refine S_v E rfl (R_load E rfl (Tryz.isAgg116 _) (cell_blkf (S.mem (.head _)) rfl)) rfl ?_
  clear E a; intro a E
  refine S_v E rfl (R_nilCheck E rfl se0) rfl ?_
  clear E a; intro a E
  refine S_v E rfl (R_loadM E (congrArg some se0) Tryz.isAgg145 S.imm (cellM_box shb0)) rfl ?_
  clear E a; intro a E
  refine S_v E rfl ((R_lenF S.imm shm0 E MT145 rfl).trans (by rw [encS_len])) rfl ?_
  clear E a; intro a E
  refine S_v E rfl (R_assign E rfl) rfl ?_
  clear E a; intro a E
  refine WL_nil ?_
  refine T_n ?_
  refine WP_seq ?_
  refine WP_region ?_
  refine S_v E rfl (R_move E rfl) rfl ?_
  clear E a; intro a E
  refine S_x (X_make0 (k := (sq0).length) E S rfl rfl rfl T22 rfl (by omega) (by omega) (by omega) ?_)
  clear E a S; rintro a w v_2 E S
  replace S := S.made0
  refine S_v E rfl (R_assign E rfl) rfl ?_
  clear E a; intro a E
  refine WL_nil ?_
  refine T_n ?_
  refine WP_seq ?_
  refine WP_seq ?_
  refine WP_region ?_
  refine S_v E rfl (R_move E rfl) rfl ?_
  clear E a; intro a E
  refine S_v E rfl (R_nilCheck E rfl rfl) rfl ?_
  clear E a; intro a E
  refine S_v E rfl (R_fieldAddr E rfl (FA144_1 _)) rfl ?_
  clear E a; intro a E
  refine S_v E rfl (R_load E rfl (Tryz.isAgg116 _) (cell_blkf (S.mem (.tail _ (.head _))) rfl)) rfl ?_
  clear E a; intro a E
  refine S_v E rfl (R_nilCheck E rfl se0) rfl ?_
  clear E a; intro a E
  refine S_v E rfl (R_loadM E (congrArg some se0) Tryz.isAgg145 S.imm (cellM_box shb0)) rfl ?_
  clear E a; intro a E
  refine S_x (X_range E S rfl MT145 shm0 rfl ?_)
  clear E a S; rintro a w i_3 es_4 ck_5 E hf_6 S
  replace S : St w M_1 (ItO sm0 es_4 ck_5 i_3 (Sl.encS ([] : List Int)) :: _) := S
  refine WL_nil ?_
  refine T_n ?_
  refine WP_block ?_
  replace S := S.front1
  replace S := S.front1
  replace S := S.front1
  replace S := S.re1 (l' := []) (by (first | rfl | (simp [addsL_snoc]; done) | (simp [addsL_snoc, List.filter_append, *]; done)))
  replace S := S.front1
  replace S := S.reIt (p' := (Sl.encS [])) (congrArg Sl.encS (show ([] : List Int) = [] by (first | rfl | (simp [addsL_snoc]; done) | (simp [addsL_snoc, List.filter_append, *]; done))))
  refine WP_loop (γ := List Int) (fun (p : List Int) a w => ∃ (M_7 : Hp) (u4 : Value), Hp.le M_1 M_7 ∧ St w M_7 (ItO sm0 es_4 ck_5 i_3 (Sl.encS p) :: OwnI 3 u4 p :: blk p0 (.cells #[.int .i32 0, .int .u32 0, .int .u32 0, .int .u32 0, .int .i32 1, .int .i32 0, v0] 144) :: H) ∧ Env a 39 [] [(0, .pointer (some ⟨p0, 0, none⟩)), (4, u4), (25, .pointer (some ⟨i_3, 0, none⟩))] ∧ (p.Nodup) ∧ (∀ z ∈ p, z ∈ sq0) ∧ (p.length ≤ sq0.length)) (fun p => sq0.length - p.length) [] ⟨M_1, _, Hp.le.refl _, S, E.keep ⟨rfl, rfl, rfl, trivial⟩, (by simp), (by simp), (by simp)⟩ ?_
  try clear E
  try clear S
  try clear a
  try clear w
  rintro p a w ⟨M_7, u4, hM_7, S, E, hL0_0, hL0_1, hL0_2⟩
  replace h0 := h0.le hM_7
  replace shb0 := hM_7.2 _ _ shb0
  replace shm0 := shm0.le hM_7
  replace hf_6 := hf_6.le hM_7
  refine WP_seq ?_
  refine WP_region ?_
  refine S_x (X_nextS E S rfl hf_6 rfl (by assumption) (by assumption) ?_ ?_)
  · clear E a S; rintro a E hpm_8 S
    refine S_v E rfl (R_extract E rfl rfl) rfl ?_
    clear E a; intro a E
    refine WL_nil ?_
    refine T_n ?_
    refine WP_seq ?_
    refine WP_condF E rfl rfl ?_
    refine WP_exit ?_
    refine T_x ?_
    refine T_x ?_
    refine B_x ?_
    refine T_n ?_
    refine WP_seq ?_
    refine WP_region ?_
    refine S_v E rfl (R_move E rfl) rfl ?_
    clear E a; intro a E
    refine S_v E rfl (R_nilCheck E rfl rfl) rfl ?_
    clear E a; intro a E
    refine S_v E rfl (R_fieldAddr E rfl (FA144_0 _)) rfl ?_
    clear E a; intro a E
    replace S := S.front2
    replace S : St w M_7 (LK p0 144 (0 + 1) v0 :: _) := S
    refine S_x (X_sp (p := [LK p0 144 (0 + 1) v0]) E S rfl rfl rfl (runlock_sp Tryz.rwRLib (T := 144) (n := 0) (by decide) (by decide)) (Hp.le.refl _) ?_)
    clear E a S; rintro a _ w M_9 _ hM_9 ⟨rfl, rfl⟩ S E
    replace S : St w M_9 (blk p0 (.cells #[.int .i32 0, .int .u32 0, .int .u32 0, .int .u32 0, .int .i32 0, .int .i32 0, v0] 144) :: ItO sm0 es_4 ck_5 i_3 (Sl.encS p) :: OwnI 3 u4 p :: H) := S
    replace h0 := h0.le hM_9
    replace shb0 := hM_9.2 _ _ shb0
    replace shm0 := shm0.le hM_9
    replace hf_6 := hf_6.le hM_9
    refine WL_nil ?_
    refine T_n ?_
    refine WP_seq ?_
    refine WP_region ?_
    refine S_v E rfl (R_move E rfl) rfl ?_
    clear E a; intro a E
    refine S_v E rfl (R_assign E rfl) rfl ?_
    clear E a; intro a E
    refine WL_nil ?_
    refine T_n ?_
    refine WP_ret ?_
    replace S := S.front1
    replace S := S.drop
    replace S := S.front1
    replace S := S.front1
    exact F_ret1 E Tryz.results182 rfl ⟨_, rfl, M_9, _, (hM_1.trans (hM_7.trans hM_9)), ⟨_, rfl, (by assumption), (by (intro x; exact (List.Perm.mem_iff (by first | assumption | (exact List.Perm.symm (by assumption)))).trans (shq0 x)))⟩, S⟩
  · clear E a S w; rintro a w k_10 E hk_11 hk_11n hk_11l S
    refine S_v E rfl (R_extract E rfl rfl) rfl ?_
    clear E a; intro a E
    refine WL_nil ?_
    refine T_n ?_
    refine WP_seq ?_
    refine WP_condT E rfl rfl ?_
    refine WP_skip ?_
    refine T_n ?_
    refine WP_block ?_
    refine WP_seq ?_
    refine WP_region ?_
    refine S_v E rfl (R_entry (k := k_10) (v := .agg #[]) E (by have S1 := S; simp only [Sl.encS, List.map_append, List.map_cons, List.map_nil] at S1; exact S1) hf_6 rfl) rfl ?_
    clear E a; intro a E
    refine S_v E rfl (R_extract E rfl rfl) rfl ?_
    clear E a; intro a E
    refine S_v E rfl (R_assign E rfl) rfl ?_
    clear E a; intro a E
    refine WL_nil ?_
    refine T_n ?_
    refine WP_region ?_
    refine S_v E rfl (R_move E rfl) rfl ?_
    clear E a; intro a E
    refine S_v E rfl (R_move E rfl) rfl ?_
    clear E a; intro a E
    refine S_x (X_buildI (ys := [k_10]) E S rfl T22 rfl rfl rfl ?_)
    clear E a S; rintro a w v_12 E S
    replace S := S.front2
    replace S := S.front1
    refine S_x (X_appendB (xs := p) (ys := [k_10]) E S rfl rfl rfl T22 (by (simp; omega)) ?_)
    clear E a S; rintro a w v_13 E S
    refine S_v E rfl (R_assign E rfl) rfl ?_
    clear E a; intro a E
    refine WL_nil ?_
    refine B_n ?_
    refine T_n ?_
    replace S := S.front2
    replace S := S.front1
    replace S := S.front2
    replace S := S.front1
    replace S := S.re1 (l' := (p ++ [k_10])) (by (first | rfl | (simp [addsL_snoc]; done) | (simp [addsL_snoc, List.filter_append, *]; done)))
    replace S := S.front1
    replace S := S.reIt (p' := (Sl.encS (p ++ [k_10]))) (congrArg Sl.encS (show p ++ [k_10] = (p ++ [k_10]) by (first | rfl | (simp [addsL_snoc]; done) | (simp [addsL_snoc, List.filter_append, *]; done))))
    exact ⟨(p ++ [k_10]), ⟨M_7, _, hM_7, S, E.keep ⟨rfl, rfl, rfl, trivial⟩, (by exact snocN (by assumption) (by assumption)), (by exact snocS (by assumption) (by assumption)), (by simp; omega)⟩, (by simp; omega)⟩

set_option maxRecDepth 100000 in
set_option maxHeartbeats 4000000 in
theorem reg_ToSlice {M : Hp} {x0 : Bool} {v : Value} {t : List RG} {i : Nat} {x : RG} (hx : t[i]? = some x) (hb : x.2.2.length ≤ 1000000000) :
    InvSp Tryz.prog (ifv KS x0 x) "ToSlice" M [] [Regs KS x0 v t] (fun r _ C' => ∃ D, C' = Regs KS x0 v t :: D ∧ ∃ l, D = [OwnI 3 r l] ∧ l.Nodup ∧ ∀ z, z ∈ l ↔ z ∈ x.2.2) := by
  refine reg_look1 hx fun M' hM hr => ?_
  cases x0
  · obtain ⟨b0, m0, q0, e, hb0, hm, hn, hq⟩ := hr
    exact lookU (F := [lkI KS false x]) (InvSp.of_spS (fun w M1 H hM S => meth_116_ToSlice e (cellM_world S.imm (cellM_box (hM.2 _ _ hb0)))) Tryz.call213 (U_ToSlice hm hn hq hb)) fun r M2 C h => h
  · exact (InvSp.of_sp (fun w => meth_114_ToSlice _ w) Tryz.call182 (S_ToSlice hr hb)).mono fun r M2 C ⟨l, h1, h2⟩ => ⟨[OwnI 3 r l], h1, l, rfl, h2⟩

set_option maxRecDepth 100000 in
set_option maxHeartbeats 4000000 in
def Tryz.lsort_ren : Go.Shelf.Ren := ⟨fun | 5 => 57 | 8 => 82 | 7 => 81 | 19 => 104 | 20 => 105 | 10 => 95 | 11 => 96 | 12 => 97 | 13 => 98 | 14 => 99 | 15 => 100 | 16 => 101 | 17 => 102 | 18 => 103 | 30 => 112 | 31 => 113 | 32 => 114 | 33 => 115 | 34 => 116 | 35 => 117 | 40 => 131 | n => n, fun | 23 => 22 | 25 => 3 | 3 => 3 | 32 => 113 | 22 => 22 | 0 => 0 | 44 => 130 | 46 => 132 | 4 => 4 | 36 => 123 | 35 => 122 | 41 => 93 | 5 => 5 | 9 => 9 | 53 => 148 | 57 => 152 | 63 => 162 | 64 => 163 | n => n, fun | n => n⟩
set_option maxRecDepth 100000 in
set_option maxHeartbeats 4000000 in
theorem Tryz.lsort : Go.Proofs.SlLaysM.n5 Tryz.prog Tryz.lsort_ren := {
  mixed := by kernel_rfl,
  f5 := ⟨Tryz.f57.name, by decide, Tryz.func57.trans (congrArg some (by kernel_rfl))⟩,
  f7 := ⟨Tryz.f81.name, by decide, Tryz.func81.trans (congrArg some (by kernel_rfl))⟩,
  f8 := Tryz.func82.trans (congrArg some (by kernel_rfl)),
  f10 := ⟨Tryz.f95.name, by decide, Tryz.func95.trans (congrArg some (by kernel_rfl))⟩,
  f11 := ⟨Tryz.f96.name, by decide, Tryz.func96.trans (congrArg some (by kernel_rfl))⟩,
  f12 := ⟨Tryz.f97.name, by decide, Tryz.func97.trans (congrArg some (by kernel_rfl))⟩,
  f13 := ⟨Tryz.f98.name, by decide, Tryz.func98.trans (congrArg some (by kernel_rfl))⟩,
  f14 := ⟨Tryz.f99.name, by decide, Tryz.func99.trans (congrArg some (by kernel_rfl))⟩,
  f15 := ⟨Tryz.f100.name, by decide, Tryz.func100.trans (congrArg some (by kernel_rfl))⟩,
  f16 := ⟨Tryz.f101.name, by decide, Tryz.func101.trans (congrArg some (by kernel_rfl))⟩,
  f17 := ⟨Tryz.f102.name, by decide, Tryz.func102.trans (congrArg some (by kernel_rfl))⟩,
  f18 := ⟨Tryz.f103.name, by decide, Tryz.func103.trans (congrArg some (by kernel_rfl))⟩,
  f19 := Tryz.func104.trans (congrArg some (by kernel_rfl)),
  f20 := Tryz.func105.trans (congrArg some (by kernel_rfl)),
  f30 := ⟨Tryz.f112.name, by decide, Tryz.func112.trans (congrArg some (by kernel_rfl))⟩,
  f31 := Tryz.func113.trans (congrArg some (by kernel_rfl)),
  f32 := Tryz.func114.trans (congrArg some (by kernel_rfl)),
  f33 := ⟨Tryz.f115.name, by decide, Tryz.func115.trans (congrArg some (by kernel_rfl))⟩,
  f34 := ⟨Tryz.f116.name, by decide, Tryz.func116.trans (congrArg some (by kernel_rfl))⟩,
  f35 := ⟨Tryz.f117.name, by decide, Tryz.func117.trans (congrArg some (by kernel_rfl))⟩,
  f40 := ⟨Tryz.f131.name, by decide, Tryz.func131.trans (congrArg some (by kernel_rfl))⟩,
  t0 := Tryz.underlying0,
  a0 := Tryz.isAgg0,
  z0 := Tryz.sizeOf0,
  v0 := Tryz.zeroValue0,
  t3 := Tryz.underlying3,
  a3 := Tryz.isAgg3,
  z3 := Tryz.sizeOf3,
  v3 := Tryz.zeroValue3,
  t4 := Tryz.underlying4,
  a4 := Tryz.isAgg4,
  z4 := Tryz.sizeOf4,
  v4 := Tryz.zeroValue4,
  t5 := Tryz.underlying5,
  a5 := Tryz.isAgg5,
  z5 := Tryz.sizeOf5,
  v5 := Tryz.zeroValue5,
  t9 := Tryz.underlying9,
  a9 := Tryz.isAgg9,
  z9 := Tryz.sizeOf9,
  v9 := Tryz.zeroValue9,
  t22 := Tryz.underlying22,
  a22 := Tryz.isAgg22,
  z22 := Tryz.sizeOf22,
  v22 := Tryz.zeroValue22,
  t23 := Tryz.underlying22,
  a23 := Tryz.isAgg22,
  z23 := Tryz.sizeOf22,
  v23 := Tryz.zeroValue22,
  t25 := Tryz.underlying3,
  a25 := Tryz.isAgg3,
  z25 := Tryz.sizeOf3,
  v25 := Tryz.zeroValue3,
  t32 := Tryz.underlying113,
  a32 := Tryz.isAgg113,
  z32 := Tryz.sizeOf113,
  v32 := Tryz.zeroValue113,
  t35 := Tryz.underlying122,
  a35 := Tryz.isAgg122,
  z35 := Tryz.sizeOf122,
  v35 := Tryz.zeroValue122,
  t36 := Tryz.underlying123,
  a36 := Tryz.isAgg123,
  z36 := Tryz.sizeOf123,
  v36 := Tryz.zeroValue123,
  t41 := Tryz.underlying93,
  a41 := Tryz.isAgg93,
  z41 := Tryz.sizeOf93,
  v41 := Tryz.zeroValue93,
  t44 := Tryz.underlying130,
  a44 := Tryz.isAgg130,
  z44 := Tryz.sizeOf130,
  v44 := Tryz.zeroValue130,
  t46 := Tryz.underlying132,
  a46 := Tryz.isAgg132,
  z46 := Tryz.sizeOf132,
  v46 := Tryz.zeroValue132,
  t53 := Tryz.underlying148,
  a53 := Tryz.isAgg148,
  z53 := Tryz.sizeOf148,
  v53 := Tryz.zeroValue148,
  t57 := Tryz.underlying152,
  a57 := Tryz.isAgg152,
  z57 := Tryz.sizeOf152,
  v57 := Tryz.zeroValue152,
  t63 := Tryz.underlying162,
  a63 := Tryz.isAgg162,
  z63 := Tryz.sizeOf162,
  v63 := Tryz.zeroValue162,
  t64 := Tryz.underlying163,
  a64 := Tryz.isAgg163,
  z64 := Tryz.sizeOf163,
  v64 := Tryz.zeroValue163 }
theorem slices_Sort {M : Hp} {v0 : Value} {l0 : List Int} (b0 : l0.length ≤ 1000000000000) :
    Sp Tryz.prog (.func (.func 57) #[] #[]) M [v0] [OwnI 3 v0 l0] (fun r M' C' => C' = [OwnI 3 v0 (srtM l0)]) :=
  sort_sp Tryz.call57 (fun blk off cap zs w a b c => AnyM.slices_Sort_int Tryz.lsort blk off cap zs w a b c) (fun p cap w => AnyM.slices_Sort_int_none Tryz.lsort p cap w) b0

set_option maxRecDepth 100000 in
set_option maxHeartbeats 4000000 in
theorem R_Sorted {M : Hp} {x0 : Bool} {v1 : Value} {t9 : List RG} {i : Nat} {x : RG} (hx : t9[i]? = some x) (hb : x.2.2.length ≤ 1000000000) :
    Sp Tryz.prog (.func (.func 39) #[] #[]) M [ifv KS x0 x] [Regs KS x0 v1 t9] (fun r M' C' => ∃ u_, C' = [Regs KS x0 v1 t9] ∧ r = u_ ∧ (RdI M' u_ (setI x.2.2))) := by
  refine Sp_enter Tryz.func39 rfl Tryz.ntmps39 rfl Tryz.call39 ?_
  intro a w M1 H hM1 S E
  replace S : St w M1 (Regs KS x0 v1 t9 :: _) := S
  refine WP_seq ?_
  refine WP_region ?_
  refine S_v E rfl (R_assign E rfl) rfl ?_
  clear E a; intro a E
  refine WL_nil ?_
  refine T_n ?_
  refine WP_seq ?_
  refine WP_region ?_
  refine S_v E rfl (R_move E rfl) rfl ?_
  clear E a; intro a E
  refine S_x (X_inv (p := [Regs KS x0 v1 t9]) E S rfl rfl rfl (reg_ToSlice hx (by first | assumption | omega)) (Hp.le.refl _) ?_)
  clear E a S; rintro a v_3 w M_1 _ hM_1 ⟨_, rfl, l_2, rfl, hl_2n, hl_2m⟩ S E
  replace S : St w M_1 (Regs KS x0 v1 t9 :: OwnI 3 v_3 l_2 :: H) := S
  have hl_2l : l_2.length ≤ x.2.2.length := nodup_len hl_2n fun z hz => (hl_2m z).1 hz
  refine S_v E rfl (R_assign E rfl) rfl ?_
  clear E a; intro a E
  refine WL_nil ?_
  refine T_n ?_
  refine WP_seq ?_
  refine WP_region ?_
  refine S_v E rfl (R_move E rfl) rfl ?_
  clear E a; intro a E
  replace S := S.front1
  refine S_x (X_sp (p := [OwnI 3 v_3 l_2]) E S rfl rfl rfl (slices_Sort (by (first | omega | (simp; omega) | (simp; done) | (simp_all; omega) | grind))) (Hp.le.refl _) ?_)
  clear E a S; rintro a v_5 w M_4 _ hM_4 rfl S E
  replace S : St w M_4 (OwnI 3 v_3 (srtM l_2) :: _) := S
  refine WL_nil ?_
  refine T_n ?_
  refine WP_seq ?_
  refine WP_region ?_
  refine S_v E rfl (R_move E rfl) rfl ?_
  clear E a; intro a E
  refine S_v E rfl (R_assign E rfl) rfl ?_
  clear E a; intro a E
  refine WL_nil ?_
  refine T_n ?_
  refine WP_ret ?_
  have S0 := S; clear S
  obtain ⟨M_6, hM_6, hz_7, S⟩ := S0.freezeI (by (first | omega | (rw [srtM_len]; omega)))
  clear S0
  exact F_ret1 E Tryz.results39 rfl ⟨_, rfl, M_6, _, (hM_1.trans (hM_4.trans hM_6)), ⟨_, rfl, rfl, (by exact SLeq hz_7 (srt_setB (by assumption) (by assumption)))⟩, S⟩

set_option maxRecDepth 100000 in
set_option maxHeartbeats 4000000 in
theorem U_Each {M : Hp} {v0 : Value} {c0 : List Int} (h0 : RdSU 145 M v0 c0) {v1 : Value} {J1 : List Int → HProp} (h1 : EachF Tryz.prog v1 M J1) (b0 : c0.length ≤ 1000000000)  :
    Sp Tryz.prog (.func (.func 208) #[] #[]) M [v0, v1] [J1 ([] : List Int)] (fun r M' C' => ∃ p_, C' = [J1 p_] ∧ r = .tuple #[] ∧ (p_.Nodup) ∧ (∀ z, z ∈ p_ ↔ z ∈ c0)) := by
  refine Sp_enter Tryz.func208 rfl Tryz.ntmps208 rfl Tryz.call208 ?_
  intro a w M1 H hM1 S E
  replace S : St w M1 (J1 ([] : List Int) :: _) := S
  replace h0 := h0.le hM1
  replace h1 := h1.le hM1
  refine WP_seq ?_
  refine WP_region ?_
  refine S_v E rfl (R_move E rfl) rfl ?_
  clear E a; intro a E
  have hset := h0
  obtain ⟨sb0, sm0, sq0, se0, shb0, shm0, shn0, shq0⟩ := hset
  have shq0l : sq0.length ≤ c0.length := nodup_len shn0 fun z hz => (shq0 z).1 hz
  refine S_v E rfl (R_nilCheck E rfl se0) rfl ?_
  clear E a; intro a E
  refine S_v E rfl (R_loadM E (congrArg some se0) Tryz.isAgg145 S.imm (cellM_box shb0)) rfl ?_
  clear E a; intro a E
  refine S_x (X_range E S rfl MT145 shm0 rfl ?_)
  clear E a S; rintro a w i_1 es_2 ck_3 E hf_4 S
  replace S : St w M1 (ItO sm0 es_2 ck_3 i_1 (Sl.encS ([] : List Int)) :: _) := S
  refine WL_nil ?_
  refine T_n ?_
  refine WP_block ?_
  replace S := S.front1
  replace S := S.front1
  replace S := S.front1
  replace S := S.reSt (C := J1) (s' := []) (by first | rfl | (simp; done))
  replace S := S.front1
  replace S := S.reIt (p' := (Sl.encS [])) (congrArg Sl.encS (show ([] : List Int) = [] by first | rfl | (simp; done)))
  refine WP_loop (γ := List Int) (fun (p : List Int) a w => ∃ (M_5 : Hp), Hp.le M1 M_5 ∧ St w M_5 (ItO sm0 es_2 ck_3 i_1 (Sl.encS p) :: J1 p :: H) ∧ Env a 16 [] [(1, v1), (8, .pointer (some ⟨i_1, 0, none⟩))] ∧ (p.Nodup) ∧ (∀ z ∈ p, z ∈ sq0) ∧ (p.length ≤ sq0.length)) (fun p => sq0.length - p.length) [] ⟨M1, Hp.le.refl _, S, E.keep ⟨rfl, rfl, trivial⟩, (by simp), (by simp), (by simp)⟩ ?_
  try clear E
  try clear S
  try clear a
  try clear w
  rintro p a w ⟨M_5, hM_5, S, E, hL0_0, hL0_1, hL0_2⟩
  replace h0 := h0.le hM_5
  replace h1 := h1.le hM_5
  replace shb0 := hM_5.2 _ _ shb0
  replace shm0 := shm0.le hM_5
  replace hf_4 := hf_4.le hM_5
  refine WP_seq ?_
  refine WP_region ?_
  refine S_x (X_nextS E S rfl hf_4 rfl (by assumption) (by assumption) ?_ ?_)
  · clear E a S; rintro a E hpm_6 S
    refine S_v E rfl (R_extract E rfl rfl) rfl ?_
    clear E a; intro a E
    refine WL_nil ?_
    refine T_n ?_
    refine WP_seq ?_
    refine WP_condF E rfl rfl ?_
    refine WP_exit ?_
    refine T_x ?_
    refine T_x ?_
    refine B_x ?_
    refine F_nrm ?_
    replace S := S.drop
    exact F_ret0 E Tryz.results208 ⟨_, rfl, M_5, _, hM_5, ⟨_, rfl, rfl, (by assumption), (by (intro z; exact (List.Perm.mem_iff (by first | assumption | (exact List.Perm.symm (by assumption)))).trans (shq0 z)))⟩, S⟩
  · clear E a S w; rintro a w k_7 E hk_8 hk_8n hk_8l S
    refine S_v E rfl (R_extract E rfl rfl) rfl ?_
    clear E a; intro a E
    refine WL_nil ?_
    refine T_n ?_
    refine WP_seq ?_
    refine WP_condT E rfl rfl ?_
    refine WP_skip ?_
    refine T_n ?_
    refine WP_block ?_
    refine WP_seq ?_
    refine WP_region ?_
    refine S_v E rfl (R_entry (k := k_7) (v := .agg #[]) E (by have S1 := S; simp only [Sl.encS, List.map_append, List.map_cons, List.map_nil] at S1; exact S1) hf_4 rfl) rfl ?_
    clear E a; intro a E
    refine S_v E rfl (R_extract E rfl rfl) rfl ?_
    clear E a; intro a E
    refine S_v E rfl (R_assign E rfl) rfl ?_
    clear E a; intro a E
    refine WL_nil ?_
    refine T_n ?_
    refine WP_seq ?_
    refine WP_region ?_
    refine S_v E rfl (R_move E rfl) rfl ?_
    clear E a; intro a E
    refine S_v E rfl (R_move E rfl) rfl ?_
    clear E a; intro a E
    replace S := S.front1
    refine S_x (X_sp (p := [J1 p]) E S rfl rfl rfl (h1.2 p k_7 (by first | omega | (simp; done))) (Hp.le.refl _) ?_)
    clear E a S; rintro a _ w M_9 _ hM_9 ⟨rfl, rfl⟩ S E
    replace S : St w M_9 (J1 (p ++ [k_7]) :: ItO sm0 es_2 ck_3 i_1 (Sl.encS (p ++ [k_7])) :: H) := S
    replace h0 := h0.le hM_9
    replace h1 := h1.le hM_9
    replace shb0 := hM_9.2 _ _ shb0
    replace shm0 := shm0.le hM_9
    replace hf_4 := hf_4.le hM_9
    refine WL_nil ?_
    refine T_n ?_
    refine WP_condF E rfl rfl ?_
    refine WP_skip ?_
    refine B_n ?_
    refine T_n ?_
    replace S := S.front1
    replace S := S.front1
    replace S := S.reSt (C := J1) (s' := (p ++ [k_7])) (by first | rfl | (simp; done))
    replace S := S.front1
    replace S := S.reIt (p' := (Sl.encS (p ++ [k_7]))) (congrArg Sl.encS (show p ++ [k_7] = (p ++ [k_7]) by first | rfl | (simp; done)))
    exact ⟨(p ++ [k_7]), ⟨M_9, (hM_5.trans hM_9), S, E.keep ⟨rfl, rfl, trivial⟩, (by exact snocN (by assumption) (by assumption)), (by exact snocS (by assumption) (by assumption)), (by simp; omega)⟩, (by simp; omega)⟩

set_option maxRecDepth 100000 in
set_option maxHeartbeats 4000000 in
theorem S_Each {M : Hp} {p0 : Nat} {v0 : Value} {c0 : List Int} (h0 : RdSU 145 M v0 c0) {v1 : Value} {J1 : List Int → HProp} (h1 : EachF Tryz.prog v1 M J1) (b0 : c0.length ≤ 1000000000)  :
    Sp Tryz.prog (.func (.func 169) #[] #[]) M [.pointer (some ⟨p0, 0, none⟩), v1] [blk p0 (.cells #[.int .i32 0, .int .u32 0, .int .u32 0, .int .u32 0, .int .i32 0, .int .i32 0, v0] 144), J1 ([] : List Int)] (fun r M' C' => ∃ p_, C' = [blk p0 (.cells #[.int .i32 0, .int .u32 0, .int .u32 0, .int .u32 0, .int .i32 0, .int .i32 0, v0] 144), J1 p_] ∧ r = .tuple #[] ∧ (p_.Nodup) ∧ (∀ z, z ∈ p_ ↔ z ∈ c0)) := by
  refine Sp_enter Tryz.func169 rfl Tryz.ntmps169 rfl Tryz.call169 ?_
  intro a w M1 H hM1 S E
  replace S : St w M1 (blk p0 (.cells #[.int .i32 0, .int .u32 0, .int .u32 0, .int .u32 0, .int .i32 0, .int .i32 0, v0] 144) :: J1 ([] : List Int) :: _) := S
  replace h0 := h0.le hM1
  replace h1 := h1.le hM1
  have hset := h0
  obtain ⟨sb0, sm0, sq0, se0, shb0, shm0, shn0, shq0⟩ := hset
  have shq0l : sq0.length ≤ c0.length := nodup_len shn0 fun z hz => (shq0 z).1 hz
  refine WP_seq ?_
  refine WP_region ?_
  refine S_v E rfl (R_move E rfl) rfl ?_
  clear E a; intro a E
  refine S_v E rfl (R_nilCheck E rfl rfl) rfl ?_
  clear E a; intro a E
  refine S_v E rfl (R_fieldAddr E rfl (FA144_0 _)) rfl ?_
  clear E a; intro a E
  replace S : St w M1 (LK p0 144 0 v0 :: _) := S
  refine S_x (X_sp (p := [LK p0 144 0 v0]) E S rfl rfl rfl (rlock_sp Tryz.rwRLib (T := 144) (n := 0) (by decide) (by decide)) (Hp.le.refl _) ?_)
  clear E a S; rintro a _ w M_1 _ hM_1 ⟨rfl, rfl⟩ S E
  replace S : St w M_1 (blk p0 (.cells #[.int .i32 0, .int .u32 0, .int .u32 0, .int .u32 0, .int .i32 1, .int .i32 0, v0] 144) :: J1 ([] : List Int) :: H) := S
  replace h0 := h0.le hM_1
  replace h1 := h1.le hM_1
  replace shb0 := hM_1.2 _ _ shb0
  replace shm0 := shm0.le hM_1
  refine WL_nil ?_
  refine T_n ?_
  refine WP_seq ?_
  refine WP_region ?_
  refine S_v E rfl (R_move E rfl) rfl ?_
  clear E a; intro a E
  refine S_v E rfl (R_nilCheck E rfl rfl) rfl ?_
  clear E a; intro a E
  refine S_v E rfl (R_fieldAddr E rfl (FA144_0 _)) rfl ?_
  clear E a; intro a E
  refine S_deferA E rfl rfl ?_
  clear E a; intro a E
  replace E : Env a 26 [⟨.fn (.func 186) #[], #[.pointer (some ⟨p0, 0, none⟩)]⟩] _ := E
  refine WL_nil ?_
  refine T_n ?_
  refine WP_seq ?_
  refine WP_region ?_
  refine S_v E rfl (R_move E rfl) rfl ?_
  clear E a; intro a E
  refine S_v E rfl (R_nilCheck E rfl rfl) rfl ?_
  clear E a; intro a E
  refine S_v E rfl (R_fieldAddr E rfl (FA144_1 _)) rfl ?_
  clear E a; intro a E
  refine S_v E rfl (R_load E rfl (Tryz.isAgg116 _) (cell_blkf (S.mem (.head _)) rfl)) rfl ?_
  clear E a; intro a E
  refine S_v E rfl (R_nilCheck E rfl se0) rfl ?_
  clear E a; intro a E
  refine S_v E rfl (R_loadM E (congrArg some se0) Tryz.isAgg145 S.imm (cellM_box shb0)) rfl ?_
  clear E a; intro a E
  refine S_x (X_range E S rfl MT145 shm0 rfl ?_)
  clear E a S; rintro a w i_2 es_3 ck_4 E hf_5 S
  replace S : St w M_1 (ItO sm0 es_3 ck_4 i_2 (Sl.encS ([] : List Int)) :: _) := S
  refine WL_nil ?_
  refine T_n ?_
  refine WP_block ?_
  replace S := S.front2
  replace S := S.front1
  replace S := S.front1
  replace S := S.reSt (C := J1) (s' := []) (by first | rfl | (simp; done))
  replace S := S.front1
  replace S := S.reIt (p' := (Sl.encS [])) (congrArg Sl.encS (show ([] : List Int) = [] by first | rfl | (simp; done)))
  refine WP_loop (γ := List Int) (fun (p : List Int) a w => ∃ (M_6 : Hp), Hp.le M_1 M_6 ∧ St w M_6 (ItO sm0 es_3 ck_4 i_2 (Sl.encS p) :: J1 p :: blk p0 (.cells #[.int .i32 0, .int .u32 0, .int .u32 0, .int .u32 0, .int .i32 1, .int .i32 0, v0] 144) :: H) ∧ Env a 26 [⟨.fn (.func 186) #[], #[.pointer (some ⟨p0, 0, none⟩)]⟩] [(1, v1), (18, .pointer (some ⟨i_2, 0, none⟩))] ∧ (p.Nodup) ∧ (∀ z ∈ p, z ∈ sq0) ∧ (p.length ≤ sq0.length)) (fun p => sq0.length - p.length) [] ⟨M_1, Hp.le.refl _, S, E.keep ⟨rfl, rfl, trivial⟩, (by simp), (by simp), (by simp)⟩ ?_
  try clear E
  try clear S
  try clear a
  try clear w
  rintro p a w ⟨M_6, hM_6, S, E, hL0_0, hL0_1, hL0_2⟩
  replace h0 := h0.le hM_6
  replace h1 := h1.le hM_6
  replace shb0 := hM_6.2 _ _ shb0
  replace shm0 := shm0.le hM_6
  replace hf_5 := hf_5.le hM_6
  refine WP_seq ?_
  refine WP_region ?_
  refine S_x (X_nextS E S rfl hf_5 rfl (by assumption) (by assumption) ?_ ?_)
  · clear E a S; rintro a E hpm_7 S
    refine S_v E rfl (R_extract E rfl rfl) rfl ?_
    clear E a; intro a E
    refine WL_nil ?_
    refine T_n ?_
    refine WP_seq ?_
    refine WP_condF E rfl rfl ?_
    refine WP_exit ?_
    refine T_x ?_
    refine T_x ?_
    refine B_x ?_
    refine F_nrm ?_
    replace S := S.drop
    replace S := S.front1
    refine F_retL0 E Tryz.results169 (fun hres => ?_)
    clear E
    replace S : St w M_6 (LK p0 144 (0 + 1) v0 :: _) := S
    refine LV_runlock Tryz.rwRLib (n := 0) (by decide) (by decide) S (fun w S => ?_)
    replace S : St w M_6 (blk p0 (.cells #[.int .i32 0, .int .u32 0, .int .u32 0, .int .u32 0, .int .i32 0, .int .i32 0, v0] 144) :: J1 p :: H) := S
    replace S := S.front1
    replace S := S.front1
    exact LV_nil (hres _) ⟨_, rfl, M_6, _, (hM_1.trans hM_6), ⟨_, rfl, rfl, (by assumption), (by (intro z; exact (List.Perm.mem_iff (by first | assumption | (exact List.Perm.symm (by assumption)))).trans (shq0 z)))⟩, S⟩
  · clear E a S w; rintro a w k_8 E hk_9 hk_9n hk_9l S
    refine S_v E rfl (R_extract E rfl rfl) rfl ?_
    clear E a; intro a E
    refine WL_nil ?_
    refine T_n ?_
    refine WP_seq ?_
    refine WP_condT E rfl rfl ?_
    refine WP_skip ?_
    refine T_n ?_
    refine WP_block ?_
    refine WP_seq ?_
    refine WP_region ?_
    refine S_v E rfl (R_entry (k := k_8) (v := .agg #[]) E (by have S1 := S; simp only [Sl.encS, List.map_append, List.map_cons, List.map_nil] at S1; exact S1) hf_5 rfl) rfl ?_
    clear E a; intro a E
    refine S_v E rfl (R_extract E rfl rfl) rfl ?_
    clear E a; intro a E
    refine S_v E rfl (R_assign E rfl) rfl ?_
    clear E a; intro a E
    refine WL_nil ?_
    refine T_n ?_
    refine WP_seq ?_
    refine WP_region ?_
    refine S_v E rfl (R_move E rfl) rfl ?_
    clear E a; intro a E
    refine S_v E rfl (R_move E rfl) rfl ?_
    clear E a; intro a E
    replace S := S.front1
    refine S_x (X_sp (p := [J1 p]) E S rfl rfl rfl (h1.2 p k_8 (by first | omega | (simp; done))) (Hp.le.refl _) ?_)
    clear E a S; rintro a _ w M_10 _ hM_10 ⟨rfl, rfl⟩ S E
    replace S : St w M_10 (J1 (p ++ [k_8]) :: ItO sm0 es_3 ck_4 i_2 (Sl.encS (p ++ [k_8])) :: blk p0 (.cells #[.int .i32 0, .int .u32 0, .int .u32 0, .int .u32 0, .int .i32 1, .int .i32 0, v0] 144) :: H) := S
    replace h0 := h0.le hM_10
    replace h1 := h1.le hM_10
    replace shb0 := hM_10.2 _ _ shb0
    replace shm0 := shm0.le hM_10
    replace hf_5 := hf_5.le hM_10
    refine WL_nil ?_
    refine T_n ?_
    refine WP_condF E rfl rfl ?_
    refine WP_skip ?_
    refine B_n ?_
    refine T_n ?_
    replace S := S.front2
    replace S := S.front1
    replace S := S.front2
    replace S := S.front1
    replace S := S.reSt (C := J1) (s' := (p ++ [k_8])) (by first | rfl | (simp; done))
    replace S := S.front1
    replace S := S.reIt (p' := (Sl.encS (p ++ [k_8]))) (congrArg Sl.encS (show p ++ [k_8] = (p ++ [k_8]) by first | rfl | (simp; done)))
    exact ⟨(p ++ [k_8]), ⟨M_10, (hM_6.trans hM_10), S, E.keep ⟨rfl, rfl, trivial⟩, (by exact snocN (by assumption) (by assumption)), (by exact snocS (by assumption) (by assumption)), (by simp; omega)⟩, (by simp; omega)⟩

set_option maxRecDepth 100000 in
set_option maxHeartbeats 4000000 in
theorem reg_Each {M : Hp} {x0 : Bool} {v : Value} {t : List RG} {i : Nat} {x : RG} {fv : Value} {J : List Int → HProp} (hx : t[i]? = some x) (h1 : EachF Tryz.prog fv M J) (hb : x.2.2.length ≤ 1000000000) :
    InvSp Tryz.prog (ifv KS x0 x) "Each" M [fv] [Regs KS x0 v t, J []] (fun r _ C' => ∃ D, C' = Regs KS x0 v t :: D ∧ ∃ p, D = [J p] ∧ r = .tuple #[] ∧ p.Nodup ∧ ∀ z, z ∈ p ↔ z ∈ x.2.2) := by
  refine reg_look1F (F := [J []]) hx fun M' hM hr => ?_
  cases x0
  · refine (InvSp.of_sp (fun w => meth_116_Each _ w) Tryz.call208 (U_Each hr (h1.le hM) hb)).conv (p' := [lkI KS false x, J []]) (fun w M H s => s.drop) fun r M2 C ⟨p, h1, h2⟩ => ⟨[lkI KS false x, J p], ⟨[J p], rfl, p, rfl, h2⟩, fun w M H s => grp_nil (by subst h1; exact s)⟩
  · exact (InvSp.of_sp (fun w => meth_114_Each _ w) Tryz.call169 (S_Each hr (h1.le hM) hb)).mono fun r M2 C ⟨p, h1, h2⟩ => ⟨[J p], h1, p, rfl, h2⟩

set_option maxRecDepth 100000 in
set_option maxHeartbeats 4000000 in
theorem impl_set1 {M : Hp} {x0 : Int} {b9 : Nat} {u9 : Value} {l9 : List Int} (hb9 : l9.length ≤ 1000000000) :
    Sp Tryz.prog (.func (.func 61) #[] #[.pointer (some ⟨b9, 0, none⟩)]) M [.int .i64 x0] [blk b9 (.cells #[.bool false, .int .i64 0, u9] 42), OwnI 3 u9 l9] (fun r M' C' => ∃ u_, C' = [blk b9 (.cells #[.bool false, .int .i64 0, u_] 42), OwnI 3 u_ (l9 ++ [x0])] ∧ r = .bool false) := by
  refine Sp_enter Tryz.func61 rfl Tryz.ntmps61 rfl Tryz.call61 ?_
  intro a w M1 H hM1 S E
  replace S : St w M1 (blk b9 (.cells #[.bool false, .int .i64 0, u9] 42) :: OwnI 3 u9 l9 :: _) := S
  refine WP_seq ?_
  refine WP_region ?_
  refine S_v E rfl (R_assign E rfl) rfl ?_
  clear E a; intro a E
  refine WL_nil ?_
  refine T_n ?_
  refine WP_seq ?_
  refine WP_region ?_
  refine S_v E rfl (R_fieldAddr E rfl (FA42_2 _)) rfl ?_
  clear E a; intro a E
  refine S_v E rfl (R_load E rfl (Tryz.isAgg22 _) (cell_blkf (S.mem (.head _)) rfl)) rfl ?_
  clear E a; intro a E
  refine S_v E rfl (R_move E rfl) rfl ?_
  clear E a; intro a E
  refine S_x (X_buildI (ys := [x0]) E S rfl T22 rfl rfl rfl ?_)
  clear E a S; rintro a w v_1 E S
  replace S := S.front2
  replace S := S.front1
  refine S_x (X_appendB (xs := l9) (ys := [x0]) E S rfl rfl rfl T22 (by first | omega | (simp; done) | (simp; omega) | (simp_all; omega)) ?_)
  clear E a S; rintro a w v_2 E S
  refine S_v E rfl (R_fieldAddr E rfl (FA42_2 _)) rfl ?_
  clear E a; intro a E
  have ho_3 := S.oneI
  replace S := S.front1
  refine S_x0 (X_storeB (f := 2) E S rfl rfl (Tryz.sizeOf22 _) ho_3 rfl ?_)
  clear E a S; rintro a w E S
  replace S : St w M1 (blk b9 (.cells #[.bool false, .int .i64 0, v_2] 42) :: _) := S
  refine WL_nil ?_
  refine T_n ?_
  refine WP_seq ?_
  refine WP_region ?_
  refine S_v E rfl (R_assign E rfl) rfl ?_
  clear E a; intro a E
  refine WL_nil ?_
  refine T_n ?_
  refine WP_ret ?_
  replace S := S.front1
  replace S := S.front1
  exact F_ret1 E Tryz.results61 rfl ⟨_, rfl, M1, _, (Hp.le.refl _), ⟨_, rfl, rfl⟩, S⟩

set_option maxRecDepth 100000 in
set_option maxHeartbeats 4000000 in
theorem set1_each {M : Hp} {b : Nat} : EachF Tryz.prog (.func (.func 61) #[] #[.pointer (some ⟨b, 0, none⟩)]) M (JA b 42 3) := by
  refine ⟨rfl, fun p x hp w M1 H hM S => ?_⟩
  obtain ⟨v, S1⟩ := openJA S
  exact (impl_set1 (M := M) hp w M1 H hM S1).mono fun r w' ⟨M2, C, h1, ⟨u, h2, h3⟩, h4⟩ => ⟨M2, _, h1, ⟨h3, rfl⟩, by subst h2; exact mkJA h4⟩

set_option maxRecDepth 100000 in
set_option maxHeartbeats 4000000 in
theorem impl_fresh {M : Hp} {v0 : Value} {l0 : List Int} (h0 : RdI M v0 l0)(hb : l0.length ≤ 1000000000000) :
    Sp Tryz.prog (.func (.func 87) #[] #[]) M [v0] [] (fun r M' C' => C' = [OwnI 3 r l0]) := by
  refine Sp_enter Tryz.func87 rfl Tryz.ntmps87 rfl Tryz.call87 ?_
  intro a w M1 H hM1 S E
  replace h0 := h0.le hM1
  have b0 := h0.bound
  refine WP_seq ?_
  refine WP_region ?_
  refine S_v E rfl (R_assign E rfl) rfl ?_
  clear E a; intro a E
  refine WL_nil ?_
  refine T_n ?_
  refine WP_seq ?_
  refine WP_region ?_
  refine S_x (X_buildI (ys := []) E S rfl T22 rfl rfl rfl ?_)
  clear E a S; rintro a w v_1 E S
  refine S_v E rfl (R_move E rfl) rfl ?_
  clear E a; intro a E
  refine S_x (X_appendI (xs := ([] : List Int)) E S rfl rfl rfl T22 h0 (by first | omega | (simp; done) | (simp; omega) | (simp_all; omega)) ?_)
  clear E a S; rintro a w v_2 E S
  refine S_v E rfl (R_assign E rfl) rfl ?_
  clear E a; intro a E
  refine WL_nil ?_
  refine T_n ?_
  refine WP_ret ?_
  replace S := S.re1 (l' := l0) (by ((try clear S); (try clear E); first | assumption | omega | rfl | (simp; done) | (simp_all; done) | (simp [List.take_add_one, *]; done) | grind [List.take_add_one]))
  exact F_ret1 E Tryz.results87 rfl ⟨_, rfl, M1, _, (Hp.le.refl _), rfl, S⟩

set_option maxRecDepth 100000 in
set_option maxHeartbeats 4000000 in
theorem sort_Ints {M : Hp} {v0 : Value} {l0 : List Int} (b0 : l0.length ≤ 1000000000000) :
    Sp Tryz.prog (.func (.func 88) #[] #[]) M [v0] [OwnI 3 v0 l0] (fun r M' C' => C' = [OwnI 3 v0 (srtM l0)]) := by
  refine Sp_enter Tryz.func88 rfl Tryz.ntmps88 rfl Tryz.call88 ?_
  intro a w M1 H hM1 S E
  replace S : St w M1 (OwnI 3 v0 l0 :: _) := S
  refine WP_region ?_
  refine S_v E rfl (R_move E rfl) rfl ?_
  clear E a; intro a E
  refine S_x (X_sp (p := [OwnI 3 v0 l0]) E S rfl rfl rfl (slices_Sort (by (first | omega | (simp; omega) | (simp; done) | (simp_all; omega) | grind))) (Hp.le.refl _) ?_)
  clear E a S; rintro a v_2 w M_1 _ hM_1 rfl S E
  replace S : St w M_1 (OwnI 3 v0 (srtM l0) :: _) := S
  refine WL_nil ?_
  refine F_nrm ?_
  exact F_ret0 E Tryz.results88 ⟨_, rfl, M_1, _, hM_1, rfl, S⟩

set_option maxRecDepth 100000 in
set_option maxHeartbeats 4000000 in
theorem impl_sorted {M : Hp} {v0 : Value} {l0 : List Int} (h0 : RdI M v0 l0) (hb : l0.length ≤ 1000000000000) :
    Pu Tryz.prog (.func (.func 62) #[] #[]) M [v0] (fun r M' => RdI M' r (srtM l0)) := by
  refine Pu_enter Tryz.func62 rfl Tryz.ntmps62 rfl Tryz.call62 ?_
  intro a w M1 H hM1 S E
  replace h0 := h0.le hM1
  have b0 := h0.bound
  refine WP_seq ?_
  refine WP_region ?_
  refine S_v E rfl (R_assign E rfl) rfl ?_
  clear E a; intro a E
  refine WL_nil ?_
  refine T_n ?_
  refine WP_seq ?_
  refine WP_region ?_
  refine S_v E rfl (R_move E rfl) rfl ?_
  clear E a; intro a E
  refine S_x (X_sp (p := []) E S rfl rfl rfl (impl_fresh h0 (by first | exact ml_len htm hbl (by assumption) | (first | omega | (simp; omega) | (simp; done) | (simp_all; omega) | grind))) (Hp.le.refl _) ?_)
  clear E a S; rintro a v_2 w M_1 _ hM_1 rfl S E
  replace S : St w M_1 (OwnI 3 v_2 l0 :: _) := S
  replace h0 := h0.le hM_1
  refine S_v E rfl (R_assign E rfl) rfl ?_
  clear E a; intro a E
  refine WL_nil ?_
  refine T_n ?_
  refine WP_seq ?_
  refine WP_region ?_
  refine S_v E rfl (R_move E rfl) rfl ?_
  clear E a; intro a E
  refine S_x (X_sp (p := [OwnI 3 v_2 l0]) E S rfl rfl rfl (sort_Ints (by (first | omega | (simp; omega) | (simp; done) | (simp_all; omega) | grind))) (Hp.le.refl _) ?_)
  clear E a S; rintro a v_4 w M_3 _ hM_3 rfl S E
  replace S : St w M_3 (OwnI 3 v_2 (srtM l0) :: _) := S
  replace h0 := h0.le hM_3
  refine WL_nil ?_
  refine T_n ?_
  refine WP_seq ?_
  refine WP_region ?_
  refine S_v E rfl (R_move E rfl) rfl ?_
  clear E a; intro a E
  refine S_v E rfl (R_assign E rfl) rfl ?_
  clear E a; intro a E
  refine WL_nil ?_
  refine T_n ?_
  refine WP_ret ?_
  have S0 := S; clear S
  obtain ⟨M_5, hM_5, hz_6, S⟩ := S0.freezeI (by (first | (rw [srtM_len]; simp; omega) | omega | (simp; omega)))
  clear S0
  replace h0 := h0.le hM_5
  exact F_ret1 E Tryz.results62 rfl ⟨_, rfl, M_5, (hM_1.trans (hM_3.trans hM_5)), hz_6, S⟩

set_option maxRecDepth 100000 in
set_option maxHeartbeats 4000000 in
theorem O_Pop {M : Hp} {b9 m9 : Nat} {l9 : List Int} (hn9 : l9.Nodup)  :
    Sp Tryz.prog (.func (.func 198) #[] #[]) M [.pointer (some ⟨b9, 0, none⟩)] [blk b9 (.cells #[.map (some m9)] 145), OwnS m9 l9] (fun r M' C' => ∃ l_ k_ b_, C' = [blk b9 (.cells #[.map (some m9)] 145), OwnS m9 l_] ∧ r = .tuple #[.int .i64 k_, .bool b_] ∧ (l_.Nodup) ∧ (∀ z, z ∈ l_ ↔ z ∈ l9 ∧ ¬ (b_ = true ∧ z = k_)) ∧ (if b_ = true then k_ ∈ l9 else (k_ = 0 ∧ l9 = []))) := by
  refine Sp_enter Tryz.func198 rfl Tryz.ntmps198 rfl Tryz.call198 ?_
  intro a w M1 H hM1 S E
  replace S : St w M1 (blk b9 (.cells #[.map (some m9)] 145) :: OwnS m9 l9 :: _) := S
  refine WP_seq ?_
  refine WP_region ?_
  refine S_v E rfl (R_assign E rfl) rfl ?_
  clear E a; intro a E
  refine S_v E rfl (R_assign E rfl) rfl ?_
  clear E a; intro a E
  refine WL_nil ?_
  refine T_n ?_
  refine WP_seq ?_
  refine WP_seq ?_
  refine WP_region ?_
  refine S_v E rfl (R_move E rfl) rfl ?_
  clear E a; intro a E
  refine S_v E rfl (R_nilCheck E rfl rfl) rfl ?_
  clear E a; intro a E
  refine S_v E rfl (R_load E rfl (Tryz.isAgg145 _) (cell_blk (S.mem (.head _)))) rfl ?_
  clear E a; intro a E
  replace S := S.front1
  refine S_x (X_rangeW E S rfl MT145 rfl ?_)
  clear E a S; rintro a w i_1 E S
  replace S : St w M1 (ItW m9 i_1 (Sl.encS l9) ([] : List Int) none :: _) := S
  refine WL_nil ?_
  refine T_n ?_
  refine WP_block ?_
  replace S := S.reW (L' := (Sl.encS (l9.filter (fun z => decide (z ∉ []))))) (D' := []) (congrArg Sl.encS (show l9 = l9.filter (fun z => decide (z ∉ [])) by first | rfl | exact (cl_nil _).symm)) (show ([] : List Int) = [] by first | rfl | (simp; done))
  refine WP_loop (γ := List Int) (fun (p : List Int) a w => ∃ (M_2 : Hp), Hp.le M1 M_2 ∧ St w M_2 (ItW m9 i_1 (Sl.encS (l9.filter (fun z => decide (z ∉ p)))) p none :: blk b9 (.cells #[.map (some m9)] 145) :: H) ∧ Env a 19 [] [(0, .pointer (some ⟨b9, 0, none⟩)), (2, .int .i64 0), (8, .pointer (some ⟨i_1, 0, none⟩))] ∧ (p = [])) (fun p => l9.length - p.length) [] ⟨M1, Hp.le.refl _, S, E.keep ⟨rfl, look_nat (i := 0) rfl (by ((try clear S); (try clear E); first | assumption | omega | rfl | (simp; done) | (simp_all; done) | (simp [List.take_add_one, *]; done) | grind [List.take_add_one])), rfl, trivial⟩, (by rfl)⟩ ?_
  try clear E
  try clear S
  try clear a
  try clear w
  rintro p a w ⟨M_2, hM_2, S, E, hL0_0⟩
  refine WP_seq ?_
  refine WP_region ?_
  refine S_x (X_nextWS E S rfl rfl ?_ ?_)
  · clear E a S; rintro a E hpm_3 S
    refine S_v E rfl (R_extract E rfl rfl) rfl ?_
    clear E a; intro a E
    refine WL_nil ?_
    refine T_n ?_
    refine WP_seq ?_
    refine WP_condF E rfl rfl ?_
    refine WP_exit ?_
    refine T_x ?_
    refine T_x ?_
    refine B_x ?_
    refine T_n ?_
    refine WP_seq ?_
    refine WP_region ?_
    refine S_v E rfl (R_move E rfl) rfl ?_
    clear E a; intro a E
    refine S_v E rfl (R_assign E rfl) rfl ?_
    clear E a; intro a E
    refine S_v E rfl (R_assign E rfl) rfl ?_
    clear E a; intro a E
    refine WL_nil ?_
    refine T_n ?_
    refine WP_ret ?_
    replace S := S.front1
    exact F_ret2 E Tryz.results198 rfl rfl ⟨_, rfl, M_2, _, hM_2, ⟨_, _, _, rfl, rfl, (by (exact hn9.filter _)), (by (intro z; subst hL0_0; simp)), (by (subst hL0_0; simp_all [List.eq_nil_iff_forall_not_mem]))⟩, S⟩
  · clear E a S w; rintro a w k_4 E hk_5 hk_5n S
    refine S_v E rfl (R_extract E rfl rfl) rfl ?_
    clear E a; intro a E
    refine WL_nil ?_
    refine T_n ?_
    refine WP_seq ?_
    refine WP_condT E rfl rfl ?_
    refine WP_skip ?_
    refine T_n ?_
    refine WP_block ?_
    refine WP_seq ?_
    refine WP_region ?_
    refine S_v E rfl (R_entryW E S rfl) rfl ?_
    clear E a; intro a E
    refine S_v E rfl (R_extract E rfl rfl) rfl ?_
    clear E a; intro a E
    refine S_v E rfl (R_assign E rfl) rfl ?_
    clear E a; intro a E
    refine WL_nil ?_
    refine T_n ?_
    refine WP_seq ?_
    refine WP_region ?_
    refine S_v E rfl (R_move E rfl) rfl ?_
    clear E a; intro a E
    refine S_v E rfl (R_nilCheck E rfl rfl) rfl ?_
    clear E a; intro a E
    refine S_v E rfl (R_load E rfl (Tryz.isAgg145 _) (cell_blk (S.mem (.tail _ (.head _))))) rfl ?_
    clear E a; intro a E
    refine S_v E rfl (R_move E rfl) rfl ?_
    clear E a; intro a E
    refine S_x0 (X_delete0WS E S MT145 rfl rfl ?_)
    clear E a S; rintro a w E S
    refine WL_nil ?_
    refine T_n ?_
    refine WP_seq ?_
    refine WP_region ?_
    refine S_v E rfl (R_move E rfl) rfl ?_
    clear E a; intro a E
    refine S_v E rfl (R_assign E rfl) rfl ?_
    clear E a; intro a E
    refine S_v E rfl (R_assign E rfl) rfl ?_
    clear E a; intro a E
    refine WL_nil ?_
    refine T_n ?_
    refine WP_ret ?_
    refine B_r ?_
    refine T_r ?_
    refine B_r ?_
    refine T_r ?_
    replace S := S.endW
    replace S := S.front1
    exact F_ret2 E Tryz.results198 rfl rfl ⟨_, rfl, M_2, _, hM_2, ⟨_, _, _, rfl, rfl, (by (exact (hn9.filter _).filter _)), (by (intro z; subst hL0_0; simp)), (by (subst hL0_0; simp_all))⟩, S⟩

set_option maxRecDepth 100000 in
set_option maxHeartbeats 4000000 in
theorem OS_Pop {M : Hp} {p9 b9 m9 : Nat} {l9 : List Int} (hn9 : l9.Nodup)  :
    Sp Tryz.prog (.func (.func 177) #[] #[]) M [.pointer (some ⟨p9, 0, none⟩)] [blk p9 (.cells #[.int .i32 0, .int .u32 0, .int .u32 0, .int .u32 0, .int .i32 0, .int .i32 0, .pointer (some ⟨b9, 0, none⟩)] 144), blk b9 (.cells #[.map (some m9)] 145), OwnS m9 l9] (fun r M' C' => ∃ l_ k_ b_, C' = [blk p9 (.cells #[.int .i32 0, .int .u32 0, .int .u32 0, .int .u32 0, .int .i32 0, .int .i32 0, .pointer (some ⟨b9, 0, none⟩)] 144), blk b9 (.cells #[.map (some m9)] 145), OwnS m9 l_] ∧ r = .tuple #[.int .i64 k_, .bool b_] ∧ (l_.Nodup) ∧ (∀ z, z ∈ l_ ↔ z ∈ l9 ∧ ¬ (b_ = true ∧ z = k_)) ∧ (if b_ = true then k_ ∈ l9 else (k_ = 0 ∧ l9 = []))) := by
  refine Sp_enter Tryz.func177 rfl Tryz.ntmps177 rfl Tryz.call177 ?_
  intro a w M1 H hM1 S E
  replace S : St w M1 (blk p9 (.cells #[.int .i32 0, .int .u32 0, .int .u32 0, .int .u32 0, .int .i32 0, .int .i32 0, .pointer (some ⟨b9, 0, none⟩)] 144) :: blk b9 (.cells #[.map (some m9)] 145) :: OwnS m9 l9 :: _) := S
  refine WP_seq ?_
  refine WP_region ?_
  refine S_v E rfl (R_assign E rfl) rfl ?_
  clear E a; intro a E
  refine S_v E rfl (R_assign E rfl) rfl ?_
  clear E a; intro a E
  refine WL_nil ?_
  refine T_n ?_
  refine WP_seq ?_
  refine WP_region ?_
  refine S_v E rfl (R_move E rfl) rfl ?_
  clear E a; intro a E
  refine S_v E rfl (R_nilCheck E rfl rfl) rfl ?_
  clear E a; intro a E
  refine S_v E rfl (R_fieldAddr E rfl (FA144_0 _)) rfl ?_
  clear E a; intro a E
  replace S : St w M1 (LK p9 144 0 (.pointer (some ⟨b9, 0, none⟩)) :: _) := S
  refine S_x (X_sp (p := [LK p9 144 0 (.pointer (some ⟨b9, 0, none⟩))]) E S rfl rfl rfl (wlock_sp Tryz.rwWLib (T := 144)) (Hp.le.refl _) ?_)
  clear E a S; rintro a _ w M_1 _ hM_1 ⟨rfl, rfl⟩ S E
  replace S : St w M_1 (blk p9 (.cells #[.int .i32 1, .int .u32 0, .int .u32 0, .int .u32 0, .int .i32 (-1073741824), .int .i32 0, .pointer (some ⟨b9, 0, none⟩)] 144) :: blk b9 (.cells #[.map (some m9)] 145) :: OwnS m9 l9 :: H) := S
  refine WL_nil ?_
  refine T_n ?_
  refine WP_seq ?_
  refine WP_region ?_
  refine S_v E rfl (R_move E rfl) rfl ?_
  clear E a; intro a E
  refine S_v E rfl (R_nilCheck E rfl rfl) rfl ?_
  clear E a; intro a E
  refine S_v E rfl (R_fieldAddr E rfl (FA144_0 _)) rfl ?_
  clear E a; intro a E
  refine S_deferA E rfl rfl ?_
  clear E a; intro a E
  replace E : Env a 18 [⟨.fn (.func 107) #[], #[.pointer (some ⟨p9, 0, none⟩)]⟩] _ := E
  refine WL_nil ?_
  refine T_n ?_
  refine WP_seq ?_
  refine WP_region ?_
  refine S_v E rfl (R_move E rfl) rfl ?_
  clear E a; intro a E
  refine S_v E rfl (R_nilCheck E rfl rfl) rfl ?_
  clear E a; intro a E
  refine S_v E rfl (R_fieldAddr E rfl (FA144_1 _)) rfl ?_
  clear E a; intro a E
  refine S_v E rfl (R_load E rfl (Tryz.isAgg116 _) (cell_blkf (S.mem (.head _)) rfl)) rfl ?_
  clear E a; intro a E
  replace S := S.front2
  replace S := S.front2
  refine S_x (X_sp (p := [blk b9 (.cells #[.map (some m9)] 145), OwnS m9 l9]) E S rfl rfl rfl (O_Pop (by first | assumption | exact List.nodup_nil | exact addsL_nodup _ _ (by assumption) | exact addsL_nodup _ _ List.nodup_nil)) (Hp.le.refl _) ?_)
  clear E a S; rintro a _ w M_2 _ hM_2 ⟨l_3, k_4, b_5, rfl, rfl, hx_6, hx_7, hx_8⟩ S E
  replace S : St w M_2 (blk b9 (.cells #[.map (some m9)] 145) :: OwnS m9 l_3 :: blk p9 (.cells #[.int .i32 1, .int .u32 0, .int .u32 0, .int .u32 0, .int .i32 (-1073741824), .int .i32 0, .pointer (some ⟨b9, 0, none⟩)] 144) :: H) := S
  refine S_v E rfl (R_extract E rfl rfl) rfl ?_
  clear E a; intro a E
  refine S_v E rfl (R_extract E rfl rfl) rfl ?_
  clear E a; intro a E
  refine S_v E rfl (R_assign E rfl) rfl ?_
  clear E a; intro a E
  refine S_v E rfl (R_assign E rfl) rfl ?_
  clear E a; intro a E
  refine WL_nil ?_
  refine T_n ?_
  refine WP_ret ?_
  replace S := S.front1
  replace S := S.front1
  replace S := S.front2
  refine F_retL2 E Tryz.results177 rfl rfl (fun hres => ?_)
  clear E
  replace S : St w M_2 (LKw p9 144 (.pointer (some ⟨b9, 0, none⟩)) :: _) := S
  refine LV_wunlock Tryz.rwWLib S (fun w S => ?_)
  replace S : St w M_2 (blk p9 (.cells #[.int .i32 0, .int .u32 0, .int .u32 0, .int .u32 0, .int .i32 0, .int .i32 0, .pointer (some ⟨b9, 0, none⟩)] 144) :: blk b9 (.cells #[.map (some m9)] 145) :: OwnS m9 l_3 :: H) := S
  replace S := S.front2
  replace S := S.front2
  replace S := S.front2
  exact LV_nil (hres _) ⟨_, rfl, M_2, _, (hM_1.trans hM_2), ⟨_, _, _, rfl, rfl, (by assumption), (by assumption), (by assumption)⟩, S⟩

set_option maxRecDepth 100000 in
set_option maxHeartbeats 4000000 in
theorem reg_Pop {M : Hp} {x0 : Bool} {v : Value} {t : List RG} {i : Nat} {x : RG} (hx : t[i]? = some x) :
    InvSp Tryz.prog (ifv KS x0 x) "Pop" M [] [Regs KS x0 v t] (fun r _ C' => ∃ L D, C' = Regs KS x0 v (t.set i (x.w L)) :: D ∧ (∃ k b, r = .tuple #[.int .i64 k, .bool b] ∧ L = setDif x.2.2 (if b = true then [k] else []) ∧ (if b = true then k ∈ x.2.2 else (k = 0 ∧ ∀ z, z ∉ x.2.2)) ∧ D = [])) := by
  refine reg_canon (Φ := fun r l' D => ∃ k b, r = .tuple #[.int .i64 k, .bool b] ∧ (∀ z, z ∈ l' ↔ z ∈ x.2.2 ∧ ¬ (b = true ∧ z = k)) ∧ (if b = true then k ∈ x.2.2 else (k = 0 ∧ ∀ z, z ∉ x.2.2)) ∧ D = []) (reg_liftD hx ?_) fun r l' D ⟨k, b, h1, h2, h3, h4⟩ => ⟨setDif x.2.2 (if b = true then [k] else []), fun z => (h2 z).trans (by rw [mem_dif]; cases b <;> simp), k, b, h1, rfl, h3, h4⟩
  cases x0
  · exact mutU_ptr (fun p w => meth_116_Pop p w) Tryz.call198 fun b m q hn hq => spConv (O_Pop hn) fun r M2 C ⟨l', k, b, h1, h2, h3, h4, h5⟩ => ⟨l', [], h1, h3, k, b, h2, fun z => (h4 z).trans (by rw [hq]), pop_eq hq h5, rfl⟩
  · exact mutS (fun p w => meth_114_Pop p w) Tryz.call177 fun b m q hn hq => spConv (OS_Pop hn) fun r M2 C ⟨l', k, b, h1, h2, h3, h4, h5⟩ => ⟨l', [], h1, h3, k, b, h2, fun z => (h4 z).trans (by rw [hq]), pop_eq hq h5, rfl⟩

set_option maxRecDepth 100000 in
set_option maxHeartbeats 4000000 in
theorem O_Cardinality {M : Hp} {b9 m9 : Nat} {l9 : List Int}  :
    Sp Tryz.prog (.func (.func 205) #[] #[]) M [.pointer (some ⟨b9, 0, none⟩)] [blk b9 (.cells #[.map (some m9)] 145), OwnS m9 l9] (fun r M' C' => C' = [blk b9 (.cells #[.map (some m9)] 145), OwnS m9 l9] ∧ r = .int .i64 ((l9.length : Nat) : Int)) := by
  refine Sp_enter Tryz.func205 rfl Tryz.ntmps205 rfl Tryz.call205 ?_
  intro a w M1 H hM1 S E
  replace S : St w M1 (blk b9 (.cells #[.map (some m9)] 145) :: OwnS m9 l9 :: _) := S
  refine WP_seq ?_
  refine WP_region ?_
  refine S_v E rfl (R_assign E rfl) rfl ?_
  clear E a; intro a E
  refine WL_nil ?_
  refine T_n ?_
  refine WP_seq ?_
  refine WP_region ?_
  refine S_v E rfl (R_move E rfl) rfl ?_
  clear E a; intro a E
  refine S_v E rfl (R_nilCheck E rfl rfl) rfl ?_
  clear E a; intro a E
  refine S_v E rfl (R_load E rfl (Tryz.isAgg145 _) (cell_blk (S.mem (.head _)))) rfl ?_
  clear E a; intro a E
  replace S := S.front1
  refine S_v E rfl ((R_lenO E S MT145 rfl).trans (by rw [encS_len])) rfl ?_
  clear E a; intro a E
  refine S_v E rfl (R_assign E rfl) rfl ?_
  clear E a; intro a E
  refine WL_nil ?_
  refine T_n ?_
  refine WP_ret ?_
  replace S := S.front1
  exact F_ret1 E Tryz.results205 rfl ⟨_, rfl, M1, _, (Hp.le.refl _), ⟨rfl, rfl⟩, S⟩

set_option maxRecDepth 100000 in
set_option maxHeartbeats 4000000 in
theorem O_PopN {M : Hp} {b9 m9 : Nat} {l9 : List Int} {x1 : Int} (hn9 : l9.Nodup) (hb : l9.length ≤ 1000000000) :
    Sp Tryz.prog (.func (.func 199) #[] #[]) M [.pointer (some ⟨b9, 0, none⟩), .int .i64 x1] [blk b9 (.cells #[.map (some m9)] 145), OwnS m9 l9] (fun r M' C' => ∃ l_ v_ p_, C' = [blk b9 (.cells #[.map (some m9)] 145), OwnS m9 l_, OwnI 3 v_ p_] ∧ r = .tuple #[v_, .int .i64 ((p_.length : Nat) : Int)] ∧ (l_.Nodup) ∧ (p_.Nodup) ∧ (∀ z ∈ p_, z ∈ l9) ∧ (p_.length = min x1.toNat l9.length) ∧ (∀ z, z ∈ l_ ↔ z ∈ l9 ∧ z ∉ p_)) := by
  refine Sp_enter Tryz.func199 rfl Tryz.ntmps199 rfl Tryz.call199 ?_
  intro a w M1 H hM1 S E
  replace S : St w M1 (blk b9 (.cells #[.map (some m9)] 145) :: OwnS m9 l9 :: _) := S
  refine WP_seq ?_
  refine WP_region ?_
  refine S_v E rfl (R_assign E rfl) rfl ?_
  clear E a; intro a E
  refine S_v E rfl (R_assign E rfl) rfl ?_
  clear E a; intro a E
  refine WL_nil ?_
  refine T_n ?_
  refine WP_seq ?_
  refine WP_seq ?_
  refine WP_region ?_
  refine S_v E rfl (R_move E rfl) rfl ?_
  clear E a; intro a E
  refine S_v E rfl (R_leq E rfl rfl) rfl ?_
  clear E a; intro a E
  refine S_v E rfl (R_move E rfl) rfl ?_
  clear E a; intro a E
  refine split_bool (decide (x1 ≤ 0)) (fun hc_1 => ?_) (fun hc_1 => ?_)
  · replace E := E.val (t := 9) rfl hc_1
    replace E := E.val (t := 10) rfl hc_1
    replace hc_1 := of_decide_eq_true hc_1
    refine WL_guard_no E rfl rfl rfl rfl fun a E => ?_
    refine WL_guard_no E rfl rfl rfl rfl fun a E => ?_
    refine WL_guard_no E rfl rfl rfl rfl fun a E => ?_
    refine WL_guard_no E rfl rfl rfl rfl fun a E => ?_
    refine WL_guard_no E rfl rfl rfl rfl fun a E => ?_
    refine S_v E rfl (R_pickT E rfl rfl) rfl ?_
    clear E a; intro a E
    refine WL_nil ?_
    refine T_n ?_
    refine WP_condT E rfl rfl ?_
    refine WP_seq ?_
    refine WP_region ?_
    refine S_x (X_make0 (k := 0) E S rfl rfl rfl T22 rfl (by omega) (by omega) (by omega) ?_)
    clear E a S; rintro a w v_2 E S
    replace S := S.made0
    refine S_v E rfl (R_assign E rfl) rfl ?_
    clear E a; intro a E
    refine S_v E rfl (R_assign E rfl) rfl ?_
    clear E a; intro a E
    refine WL_nil ?_
    refine T_n ?_
    refine WP_ret ?_
    refine T_r ?_
    replace S := S.front2
    replace S := S.front2
    exact F_ret2 E Tryz.results199 rfl rfl ⟨_, rfl, M1, _, (Hp.le.refl _), ⟨_, _, _, rfl, rfl, (by first | assumption | exact hn9.filter _), (by first | assumption | exact List.nodup_nil), (by first | assumption | (simp; done)), (by (first | (simp; omega) | exact pn_all hn9 (by assumption) (by assumption) | (simp_all; omega) | (simp_all; done))), (by (intro z; simp))⟩, S⟩
  · replace E := E.val (t := 9) rfl hc_1
    replace E := E.val (t := 10) rfl hc_1
    replace hc_1 := of_decide_eq_false hc_1
    refine WL_guard_yes E rfl rfl ?_
    refine S_v E rfl (R_move E rfl) rfl ?_
    clear E a; intro a E
    refine WL_guard_yes E rfl rfl ?_
    refine S_v E rfl (R_nilCheck E rfl rfl) rfl ?_
    clear E a; intro a E
    refine WL_guard_yes E rfl rfl ?_
    refine S_v E rfl (R_load E rfl (Tryz.isAgg145 _) (cell_blk (S.mem (.head _)))) rfl ?_
    clear E a; intro a E
    replace S := S.front1
    refine WL_guard_yes E rfl rfl ?_
    refine S_v E rfl ((R_lenO E S MT145 rfl).trans (by rw [encS_len])) rfl ?_
    clear E a; intro a E
    refine WL_guard_yes E rfl rfl ?_
    refine S_v E rfl (R_eql E rfl rfl) rfl ?_
    clear E a; intro a E
    refine S_v E rfl (R_pickF E rfl rfl) rfl ?_
    clear E a; intro a E
    refine WL_nil ?_
    refine T_n ?_
    refine WP_cond E rfl (fun hc_3 => ?_) (fun hc_3 => ?_)
    · replace hc_3 := of_decide_eq_true hc_3
      refine WP_seq ?_
      refine WP_region ?_
      refine S_x (X_make0 (k := 0) E S rfl rfl rfl T22 rfl (by omega) (by omega) (by omega) ?_)
      clear E a S; rintro a w v_4 E S
      replace S := S.made0
      refine S_v E rfl (R_assign E rfl) rfl ?_
      clear E a; intro a E
      refine S_v E rfl (R_assign E rfl) rfl ?_
      clear E a; intro a E
      refine WL_nil ?_
      refine T_n ?_
      refine WP_ret ?_
      refine T_r ?_
      replace S := S.front1
      replace S := S.front2
      exact F_ret2 E Tryz.results199 rfl rfl ⟨_, rfl, M1, _, (Hp.le.refl _), ⟨_, _, _, rfl, rfl, (by first | assumption | exact hn9.filter _), (by first | assumption | exact List.nodup_nil), (by first | assumption | (simp; done)), (by (first | (simp; omega) | exact pn_all hn9 (by assumption) (by assumption) | (simp_all; omega) | (simp_all; done))), (by (intro z; simp))⟩, S⟩
    · replace hc_3 := of_decide_eq_false hc_3
      refine WP_skip ?_
      refine T_n ?_
      refine WP_seq ?_
      refine WP_region ?_
      refine S_v E rfl (R_move E rfl) rfl ?_
      clear E a; intro a E
      replace S := S.front1
      refine S_x (X_sp (p := [blk b9 (.cells #[.map (some m9)] 145), OwnS m9 l9]) E S rfl rfl rfl (O_Cardinality ) (Hp.le.refl _) ?_)
      clear E a S; rintro a _ w M_5 _ hM_5 ⟨rfl, rfl⟩ S E
      replace S : St w M_5 (blk b9 (.cells #[.map (some m9)] 145) :: OwnS m9 l9 :: H) := S
      refine S_v E rfl (R_assign E rfl) rfl ?_
      clear E a; intro a E
      refine WL_nil ?_
      refine T_n ?_
      refine WP_seq ?_
      refine WP_seq ?_
      refine WP_region ?_
      refine S_v E rfl (R_move E rfl) rfl ?_
      clear E a; intro a E
      refine S_v E rfl (R_move E rfl) rfl ?_
      clear E a; intro a E
      refine S_v E rfl (R_gtr E rfl rfl) rfl ?_
      clear E a; intro a E
      refine WL_nil ?_
      refine T_n ?_
      refine WP_cond E rfl (fun hc_6 => ?_) (fun hc_6 => ?_)
      · replace hc_6 := of_decide_eq_true hc_6
        refine WP_region ?_
        refine S_v E rfl (R_move E rfl) rfl ?_
        clear E a; intro a E
        refine S_v E rfl (R_assign E rfl) rfl ?_
        clear E a; intro a E
        refine WL_nil ?_
        refine T_n ?_
        refine WP_seq ?_
        refine WP_region ?_
        refine S_v E rfl (R_move E rfl) rfl ?_
        clear E a; intro a E
        refine S_x (X_make0 (k := l9.length) E S rfl rfl rfl T22 rfl (by omega) (by omega) (by omega) ?_)
        clear E a S; rintro a w v_7 E S
        replace S := S.made0
        refine S_v E rfl (R_assign E rfl) rfl ?_
        clear E a; intro a E
        refine WL_nil ?_
        refine T_n ?_
        refine WP_seq ?_
        refine WP_seq ?_
        refine WP_region ?_
        refine S_v E rfl (R_move E rfl) rfl ?_
        clear E a; intro a E
        refine S_v E rfl (R_nilCheck E rfl rfl) rfl ?_
        clear E a; intro a E
        refine S_v E rfl (R_load E rfl (Tryz.isAgg145 _) (cell_blk (S.mem (.tail _ (.head _))))) rfl ?_
        clear E a; intro a E
        replace S := S.front2
        refine S_x (X_rangeW E S rfl MT145 rfl ?_)
        clear E a S; rintro a w i_8 E S
        replace S : St w M_5 (ItW m9 i_8 (Sl.encS l9) ([] : List Int) none :: _) := S
        refine WL_nil ?_
        refine T_n ?_
        refine WP_block ?_
        replace S := S.front1
        replace S := S.front1
        replace S := S.front1
        replace S := S.re1 (l' := []) (by first | rfl | exact (cl_nil _).symm | exact cl_snoc _ _ _)
        replace S := S.front1
        replace S := S.reW (L' := (Sl.encS (l9.filter (fun z => decide (z ∉ []))))) (D' := []) (congrArg Sl.encS (show l9 = l9.filter (fun z => decide (z ∉ [])) by first | rfl | exact (cl_nil _).symm | exact cl_snoc _ _ _)) (show ([] : List Int) = [] by first | rfl | (simp; done))
        refine WP_loop (γ := List Int) (fun (p : List Int) a w => ∃ (M_9 : Hp) (u4 : Value), Hp.le M_5 M_9 ∧ St w M_9 (ItW m9 i_8 (Sl.encS (l9.filter (fun z => decide (z ∉ p)))) p none :: OwnI 3 u4 p :: blk b9 (.cells #[.map (some m9)] 145) :: H) ∧ Env a 49 [] [(0, .pointer (some ⟨b9, 0, none⟩)), (1, .int .i64 ((l9.length : Nat) : Int)), (4, u4), (5, .int .i64 ((p.length : Nat) : Int)), (29, .pointer (some ⟨i_8, 0, none⟩))] ∧ (p.Nodup) ∧ (∀ z ∈ p, z ∈ l9) ∧ (p.length ≤ min x1.toNat l9.length)) (fun p => l9.length - p.length) [] ⟨M_5, _, Hp.le.refl _, S, E.keep ⟨rfl, rfl, rfl, look_nat (i := 0) rfl (by (rfl)), rfl, trivial⟩, (by simp), (by simp), (by simp)⟩ ?_
        try clear E
        try clear S
        try clear a
        try clear w
        rintro p a w ⟨M_9, u4, hM_9, S, E, hL0_0, hL0_1, hL0_2⟩
        have hpl := nodup_len (by assumption) (by assumption : ∀ z ∈ p, z ∈ l9)
        refine WP_seq ?_
        refine WP_region ?_
        refine S_x (X_nextWS E S rfl rfl ?_ ?_)
        · clear E a S; rintro a E hpm_10 S
          refine S_v E rfl (R_extract E rfl rfl) rfl ?_
          clear E a; intro a E
          refine WL_nil ?_
          refine T_n ?_
          refine WP_seq ?_
          refine WP_condF E rfl rfl ?_
          refine WP_exit ?_
          refine T_x ?_
          refine T_x ?_
          refine B_x ?_
          refine T_n ?_
          refine WP_seq ?_
          refine WP_region ?_
          refine S_v E rfl (R_move E rfl) rfl ?_
          clear E a; intro a E
          refine S_v E rfl (R_move E rfl) rfl ?_
          clear E a; intro a E
          refine S_v E rfl (R_assign E rfl) rfl ?_
          clear E a; intro a E
          refine S_v E rfl (R_assign E rfl) rfl ?_
          clear E a; intro a E
          refine WL_nil ?_
          refine T_n ?_
          refine WP_ret ?_
          replace S := S.front1
          replace S := S.front1
          replace S := S.front2
          exact F_ret2 E Tryz.results199 rfl rfl ⟨_, rfl, M_9, _, (hM_5.trans hM_9), ⟨_, _, _, rfl, rfl, (by first | assumption | exact hn9.filter _), (by first | assumption | exact List.nodup_nil), (by first | assumption | (simp; done)), (by (first | (simp; omega) | exact pn_all hn9 (by assumption) (by assumption) | (simp_all; omega) | (simp_all; done))), (by (intro z; simp))⟩, S⟩
        · clear E a S w; rintro a w k_11 E hk_12 hk_12n S
          refine S_v E rfl (R_extract E rfl rfl) rfl ?_
          clear E a; intro a E
          refine WL_nil ?_
          refine T_n ?_
          refine WP_seq ?_
          refine WP_condT E rfl rfl ?_
          refine WP_skip ?_
          refine T_n ?_
          refine WP_block ?_
          refine WP_seq ?_
          refine WP_region ?_
          refine S_v E rfl (R_entryW E S rfl) rfl ?_
          clear E a; intro a E
          refine S_v E rfl (R_extract E rfl rfl) rfl ?_
          clear E a; intro a E
          refine S_v E rfl (R_assign E rfl) rfl ?_
          clear E a; intro a E
          refine WL_nil ?_
          refine T_n ?_
          refine WP_seq ?_
          refine WP_seq ?_
          refine WP_region ?_
          refine S_v E rfl (R_move E rfl) rfl ?_
          clear E a; intro a E
          refine S_v E rfl (R_move E rfl) rfl ?_
          clear E a; intro a E
          refine S_v E rfl (R_geq E rfl rfl) rfl ?_
          clear E a; intro a E
          refine WL_nil ?_
          refine T_n ?_
          refine WP_cond E rfl (fun hc_13 => ?_) (fun hc_13 => ?_)
          · replace hc_13 := of_decide_eq_true hc_13
            refine WP_exit ?_
            refine T_x ?_
            refine B_y rfl ?_
            refine T_x ?_
            refine B_x ?_
            refine T_n ?_
            refine WP_seq ?_
            refine WP_region ?_
            refine S_v E rfl (R_move E rfl) rfl ?_
            clear E a; intro a E
            refine S_v E rfl (R_move E rfl) rfl ?_
            clear E a; intro a E
            refine S_v E rfl (R_assign E rfl) rfl ?_
            clear E a; intro a E
            refine S_v E rfl (R_assign E rfl) rfl ?_
            clear E a; intro a E
            refine WL_nil ?_
            refine T_n ?_
            refine WP_ret ?_
            replace S := S.endW
            replace S := S.front1
            replace S := S.front1
            replace S := S.front2
            exact F_ret2 E Tryz.results199 rfl rfl ⟨_, rfl, M_9, _, (hM_5.trans hM_9), ⟨_, _, _, rfl, rfl, (by first | assumption | exact hn9.filter _), (by first | assumption | exact List.nodup_nil), (by first | assumption | (simp; done)), (by (first | (simp; omega) | exact pn_all hn9 (by assumption) (by assumption) | (simp_all; omega) | (simp_all; done))), (by (intro z; simp))⟩, S⟩
          · replace hc_13 := of_decide_eq_false hc_13
            refine WP_skip ?_
            refine T_n ?_
            refine WP_seq ?_
            refine WP_region ?_
            refine S_v E rfl (R_move E rfl) rfl ?_
            clear E a; intro a E
            refine S_v E rfl (R_nilCheck E rfl rfl) rfl ?_
            clear E a; intro a E
            refine S_v E rfl (R_load E rfl (Tryz.isAgg145 _) (cell_blk (S.mem (.tail _ (.tail _ (.head _)))))) rfl ?_
            clear E a; intro a E
            refine S_v E rfl (R_move E rfl) rfl ?_
            clear E a; intro a E
            refine S_x0 (X_delete0WS E S MT145 rfl rfl ?_)
            clear E a S; rintro a w E S
            refine WL_nil ?_
            refine T_n ?_
            refine WP_seq ?_
            refine WP_region ?_
            refine S_v E rfl (R_move E rfl) rfl ?_
            clear E a; intro a E
            refine S_v E rfl (R_move E rfl) rfl ?_
            clear E a; intro a E
            refine S_x (X_buildI (ys := [k_11]) E S rfl T22 rfl rfl rfl ?_)
            clear E a S; rintro a w v_14 E S
            replace S := S.front2
            replace S := S.front1
            refine S_x (X_appendB (xs := p) (ys := [k_11]) E S rfl rfl rfl T22 (by (simp only [List.length_cons, List.length_nil]; omega)) ?_)
            clear E a S; rintro a w v_15 E S
            refine S_v E rfl (R_assign E rfl) rfl ?_
            clear E a; intro a E
            refine WL_nil ?_
            refine T_n ?_
            refine WP_region ?_
            refine S_v E rfl (R_move E rfl) rfl ?_
            clear E a; intro a E
            refine S_v E rfl (R_addx (m := ((p.length + 1 : Nat) : Int)) E rfl rfl (by omega) (by omega)) rfl ?_
            clear E a; intro a E
            refine S_v E rfl (R_assign E rfl) rfl ?_
            clear E a; intro a E
            refine WL_nil ?_
            refine B_n ?_
            refine T_n ?_
            replace S := S.front2
            replace S := S.front1
            replace S := S.front2
            replace S := S.front1
            replace S := S.re1 (l' := (p ++ [k_11])) (by first | rfl | exact (cl_nil _).symm | exact cl_snoc _ _ _)
            replace S := S.front1
            replace S := S.reW (L' := (Sl.encS (l9.filter (fun z => decide (z ∉ (p ++ [k_11])))))) (D' := (p ++ [k_11])) (congrArg Sl.encS (show (l9.filter (fun z => decide (z ∉ p))).filter (fun q_ => decide (q_ ≠ k_11)) = l9.filter (fun z => decide (z ∉ (p ++ [k_11]))) by first | rfl | exact (cl_nil _).symm | exact cl_snoc _ _ _)) (show p ++ [k_11] = (p ++ [k_11]) by first | rfl | (simp; done))
            exact ⟨(p ++ [k_11]), ⟨M_9, _, hM_9, S, E.keep ⟨rfl, rfl, rfl, look_nat (i := p.length + 1) rfl (by (simp)), rfl, trivial⟩, (by exact pn_step (l := l9) (by assumption) (by assumption)), (by exact pn_sub (by assumption) (by assumption)), (by have hlt := pn_lt hn9 (by assumption) (by assumption) (by assumption); simp; omega)⟩, (by have hlt := pn_lt hn9 (by assumption) (by assumption) (by assumption); simp; omega)⟩
      · replace hc_6 := of_decide_eq_false hc_6
        refine WP_skip ?_
        refine T_n ?_
        refine WP_seq ?_
        refine WP_region ?_
        refine S_v E rfl (R_move E rfl) rfl ?_
        clear E a; intro a E
        refine S_x (X_make0 (k := l9.length) E S rfl rfl rfl T22 rfl (by omega) (by omega) (by omega) ?_)
        clear E a S; rintro a w v_16 E S
        replace S := S.made0
        refine S_v E rfl (R_assign E rfl) rfl ?_
        clear E a; intro a E
        refine WL_nil ?_
        refine T_n ?_
        refine WP_seq ?_
        refine WP_seq ?_
        refine WP_region ?_
        refine S_v E rfl (R_move E rfl) rfl ?_
        clear E a; intro a E
        refine S_v E rfl (R_nilCheck E rfl rfl) rfl ?_
        clear E a; intro a E
        refine S_v E rfl (R_load E rfl (Tryz.isAgg145 _) (cell_blk (S.mem (.tail _ (.head _))))) rfl ?_
        clear E a; intro a E
        replace S := S.front2
        refine S_x (X_rangeW E S rfl MT145 rfl ?_)
        clear E a S; rintro a w i_17 E S
        replace S : St w M_5 (ItW m9 i_17 (Sl.encS l9) ([] : List Int) none :: _) := S
        refine WL_nil ?_
        refine T_n ?_
        refine WP_block ?_
        replace S := S.front1
        replace S := S.front1
        replace S := S.front1
        replace S := S.re1 (l' := []) (by first | rfl | exact (cl_nil _).symm | exact cl_snoc _ _ _)
        replace S := S.front1
        replace S := S.reW (L' := (Sl.encS (l9.filter (fun z => decide (z ∉ []))))) (D' := []) (congrArg Sl.encS (show l9 = l9.filter (fun z => decide (z ∉ [])) by first | rfl | exact (cl_nil _).symm | exact cl_snoc _ _ _)) (show ([] : List Int) = [] by first | rfl | (simp; done))
        refine WP_loop (γ := List Int) (fun (p : List Int) a w => ∃ (M_18 : Hp) (u4 : Value), Hp.le M_5 M_18 ∧ St w M_18 (ItW m9 i_17 (Sl.encS (l9.filter (fun z => decide (z ∉ p)))) p none :: OwnI 3 u4 p :: blk b9 (.cells #[.map (some m9)] 145) :: H) ∧ Env a 49 [] [(0, .pointer (some ⟨b9, 0, none⟩)), (1, .int .i64 x1), (4, u4), (5, .int .i64 ((p.length : Nat) : Int)), (29, .pointer (some ⟨i_17, 0, none⟩))] ∧ (p.Nodup) ∧ (∀ z ∈ p, z ∈ l9) ∧ (p.length ≤ min x1.toNat l9.length)) (fun p => l9.length - p.length) [] ⟨M_5, _, Hp.le.refl _, S, E.keep ⟨rfl, rfl, rfl, look_nat (i := 0) rfl (by (rfl)), rfl, trivial⟩, (by simp), (by simp), (by simp)⟩ ?_
        try clear E
        try clear S
        try clear a
        try clear w
        rintro p a w ⟨M_18, u4, hM_18, S, E, hL0_0, hL0_1, hL0_2⟩
        have hpl := nodup_len (by assumption) (by assumption : ∀ z ∈ p, z ∈ l9)
        refine WP_seq ?_
        refine WP_region ?_
        refine S_x (X_nextWS E S rfl rfl ?_ ?_)
        · clear E a S; rintro a E hpm_19 S
          refine S_v E rfl (R_extract E rfl rfl) rfl ?_
          clear E a; intro a E
          refine WL_nil ?_
          refine T_n ?_
          refine WP_seq ?_
          refine WP_condF E rfl rfl ?_
          refine WP_exit ?_
          refine T_x ?_
          refine T_x ?_
          refine B_x ?_
          refine T_n ?_
          refine WP_seq ?_
          refine WP_region ?_
          refine S_v E rfl (R_move E rfl) rfl ?_
          clear E a; intro a E
          refine S_v E rfl (R_move E rfl) rfl ?_
          clear E a; intro a E
          refine S_v E rfl (R_assign E rfl) rfl ?_
          clear E a; intro a E
          refine S_v E rfl (R_assign E rfl) rfl ?_
          clear E a; intro a E
          refine WL_nil ?_
          refine T_n ?_
          refine WP_ret ?_
          replace S := S.front1
          replace S := S.front1
          replace S := S.front2
          exact F_ret2 E Tryz.results199 rfl rfl ⟨_, rfl, M_18, _, (hM_5.trans hM_18), ⟨_, _, _, rfl, rfl, (by first | assumption | exact hn9.filter _), (by first | assumption | exact List.nodup_nil), (by first | assumption | (simp; done)), (by (first | (simp; omega) | exact pn_all hn9 (by assumption) (by assumption) | (simp_all; omega) | (simp_all; done))), (by (intro z; simp))⟩, S⟩
        · clear E a S w; rintro a w k_20 E hk_21 hk_21n S
          refine S_v E rfl (R_extract E rfl rfl) rfl ?_
          clear E a; intro a E
          refine WL_nil ?_
          refine T_n ?_
          refine WP_seq ?_
          refine WP_condT E rfl rfl ?_
          refine WP_skip ?_
          refine T_n ?_
          refine WP_block ?_
          refine WP_seq ?_
          refine WP_region ?_
          refine S_v E rfl (R_entryW E S rfl) rfl ?_
          clear E a; intro a E
          refine S_v E rfl (R_extract E rfl rfl) rfl ?_
          clear E a; intro a E
          refine S_v E rfl (R_assign E rfl) rfl ?_
          clear E a; intro a E
          refine WL_nil ?_
          refine T_n ?_
          refine WP_seq ?_
          refine WP_seq ?_
          refine WP_region ?_
          refine S_v E rfl (R_move E rfl) rfl ?_
          clear E a; intro a E
          refine S_v E rfl (R_move E rfl) rfl ?_
          clear E a; intro a E
          refine S_v E rfl (R_geq E rfl rfl) rfl ?_
          clear E a; intro a E
          refine WL_nil ?_
          refine T_n ?_
          refine WP_cond E rfl (fun hc_22 => ?_) (fun hc_22 => ?_)
          · replace hc_22 := of_decide_eq_true hc_22
            refine WP_exit ?_
            refine T_x ?_
            refine B_y rfl ?_
            refine T_x ?_
            refine B_x ?_
            refine T_n ?_
            refine WP_seq ?_
            refine WP_region ?_
            refine S_v E rfl (R_move E rfl) rfl ?_
            clear E a; intro a E
            refine S_v E rfl (R_move E rfl) rfl ?_
            clear E a; intro a E
            refine S_v E rfl (R_assign E rfl) rfl ?_
            clear E a; intro a E
            refine S_v E rfl (R_assign E rfl) rfl ?_
            clear E a; intro a E
            refine WL_nil ?_
            refine T_n ?_
            refine WP_ret ?_
            replace S := S.endW
            replace S := S.front1
            replace S := S.front1
            replace S := S.front2
            exact F_ret2 E Tryz.results199 rfl rfl ⟨_, rfl, M_18, _, (hM_5.trans hM_18), ⟨_, _, _, rfl, rfl, (by first | assumption | exact hn9.filter _), (by first | assumption | exact List.nodup_nil), (by first | assumption | (simp; done)), (by (first | (simp; omega) | exact pn_all hn9 (by assumption) (by assumption) | (simp_all; omega) | (simp_all; done))), (by (intro z; simp))⟩, S⟩
          · replace hc_22 := of_decide_eq_false hc_22
            refine WP_skip ?_
            refine T_n ?_
            refine WP_seq ?_
            refine WP_region ?_
            refine S_v E rfl (R_move E rfl) rfl ?_
            clear E a; intro a E
            refine S_v E rfl (R_nilCheck E rfl rfl) rfl ?_
            clear E a; intro a E
            refine S_v E rfl (R_load E rfl (Tryz.isAgg145 _) (cell_blk (S.mem (.tail _ (.tail _ (.head _)))))) rfl ?_
            clear E a; intro a E
            refine S_v E rfl (R_move E rfl) rfl ?_
            clear E a; intro a E
            refine S_x0 (X_delete0WS E S MT145 rfl rfl ?_)
            clear E a S; rintro a w E S
            refine WL_nil ?_
            refine T_n ?_
            refine WP_seq ?_
            refine WP_region ?_
            refine S_v E rfl (R_move E rfl) rfl ?_
            clear E a; intro a E
            refine S_v E rfl (R_move E rfl) rfl ?_
            clear E a; intro a E
            refine S_x (X_buildI (ys := [k_20]) E S rfl T22 rfl rfl rfl ?_)
            clear E a S; rintro a w v_23 E S
            replace S := S.front2
            replace S := S.front1
            refine S_x (X_appendB (xs := p) (ys := [k_20]) E S rfl rfl rfl T22 (by (simp only [List.length_cons, List.length_nil]; omega)) ?_)
            clear E a S; rintro a w v_24 E S
            refine S_v E rfl (R_assign E rfl) rfl ?_
            clear E a; intro a E
            refine WL_nil ?_
            refine T_n ?_
            refine WP_region ?_
            refine S_v E rfl (R_move E rfl) rfl ?_
            clear E a; intro a E
            refine S_v E rfl (R_addx (m := ((p.length + 1 : Nat) : Int)) E rfl rfl (by omega) (by omega)) rfl ?_
            clear E a; intro a E
            refine S_v E rfl (R_assign E rfl) rfl ?_
            clear E a; intro a E
            refine WL_nil ?_
            refine B_n ?_
            refine T_n ?_
            replace S := S.front2
            replace S := S.front1
            replace S := S.front2
            replace S := S.front1
            replace S := S.re1 (l' := (p ++ [k_20])) (by first | rfl | exact (cl_nil _).symm | exact cl_snoc _ _ _)
            replace S := S.front1
            replace S := S.reW (L' := (Sl.encS (l9.filter (fun z => decide (z ∉ (p ++ [k_20])))))) (D' := (p ++ [k_20])) (congrArg Sl.encS (show (l9.filter (fun z => decide (z ∉ p))).filter (fun q_ => decide (q_ ≠ k_20)) = l9.filter (fun z => decide (z ∉ (p ++ [k_20]))) by first | rfl | exact (cl_nil _).symm | exact cl_snoc _ _ _)) (show p ++ [k_20] = (p ++ [k_20]) by first | rfl | (simp; done))
            exact ⟨(p ++ [k_20]), ⟨M_18, _, hM_18, S, E.keep ⟨rfl, rfl, rfl, look_nat (i := p.length + 1) rfl (by (simp)), rfl, trivial⟩, (by exact pn_step (l := l9) (by assumption) (by assumption)), (by exact pn_sub (by assumption) (by assumption)), (by have hlt := pn_lt hn9 (by assumption) (by assumption) (by assumption); simp; omega)⟩, (by have hlt := pn_lt hn9 (by assumption) (by assumption) (by assumption); simp; omega)⟩

set_option maxRecDepth 100000 in
set_option maxHeartbeats 4000000 in
theorem OS_PopN {M : Hp} {p9 b9 m9 : Nat} {l9 : List Int} {x1 : Int} (hn9 : l9.Nodup) (hb : l9.length ≤ 1000000000) :
    Sp Tryz.prog (.func (.func 178) #[] #[]) M [.pointer (some ⟨p9, 0, none⟩), .int .i64 x1] [blk p9 (.cells #[.int .i32 0, .int .u32 0, .int .u32 0, .int .u32 0, .int .i32 0, .int .i32 0, .pointer (some ⟨b9, 0, none⟩)] 144), blk b9 (.cells #[.map (some m9)] 145), OwnS m9 l9] (fun r M' C' => ∃ l_ v_ p_, C' = [blk p9 (.cells #[.int .i32 0, .int .u32 0, .int .u32 0, .int .u32 0, .int .i32 0, .int .i32 0, .pointer (some ⟨b9, 0, none⟩)] 144), blk b9 (.cells #[.map (some m9)] 145), OwnS m9 l_, OwnI 3 v_ p_] ∧ r = .tuple #[v_, .int .i64 ((p_.length : Nat) : Int)] ∧ (l_.Nodup) ∧ (p_.Nodup) ∧ (∀ z ∈ p_, z ∈ l9) ∧ (p_.length = min x1.toNat l9.length) ∧ (∀ z, z ∈ l_ ↔ z ∈ l9 ∧ z ∉ p_)) := by
  refine Sp_enter Tryz.func178 rfl Tryz.ntmps178 rfl Tryz.call178 ?_
  intro a w M1 H hM1 S E
  replace S : St w M1 (blk p9 (.cells #[.int .i32 0, .int .u32 0, .int .u32 0, .int .u32 0, .int .i32 0, .int .i32 0, .pointer (some ⟨b9, 0, none⟩)] 144) :: blk b9 (.cells #[.map (some m9)] 145) :: OwnS m9 l9 :: _) := S
  refine WP_seq ?_
  refine WP_region ?_
  refine S_v E rfl (R_assign E rfl) rfl ?_
  clear E a; intro a E
  refine S_v E rfl (R_assign E rfl) rfl ?_
  clear E a; intro a E
  refine WL_nil ?_
  refine T_n ?_
  refine WP_seq ?_
  refine WP_region ?_
  refine S_v E rfl (R_move E rfl) rfl ?_
  clear E a; intro a E
  refine S_v E rfl (R_nilCheck E rfl rfl) rfl ?_
  clear E a; intro a E
  refine S_v E rfl (R_fieldAddr E rfl (FA144_0 _)) rfl ?_
  clear E a; intro a E
  replace S : St w M1 (LK p9 144 0 (.pointer (some ⟨b9, 0, none⟩)) :: _) := S
  refine S_x (X_sp (p := [LK p9 144 0 (.pointer (some ⟨b9, 0, none⟩))]) E S rfl rfl rfl (wlock_sp Tryz.rwWLib (T := 144)) (Hp.le.refl _) ?_)
  clear E a S; rintro a _ w M_1 _ hM_1 ⟨rfl, rfl⟩ S E
  replace S : St w M_1 (blk p9 (.cells #[.int .i32 1, .int .u32 0, .int .u32 0, .int .u32 0, .int .i32 (-1073741824), .int .i32 0, .pointer (some ⟨b9, 0, none⟩)] 144) :: blk b9 (.cells #[.map (some m9)] 145) :: OwnS m9 l9 :: H) := S
  refine WL_nil ?_
  refine T_n ?_
  refine WP_seq ?_
  refine WP_region ?_
  refine S_v E rfl (R_move E rfl) rfl ?_
  clear E a; intro a E
  refine S_v E rfl (R_nilCheck E rfl rfl) rfl ?_
  clear E a; intro a E
  refine S_v E rfl (R_fieldAddr E rfl (FA144_0 _)) rfl ?_
  clear E a; intro a E
  refine S_deferA E rfl rfl ?_
  clear E a; intro a E
  replace E : Env a 21 [⟨.fn (.func 107) #[], #[.pointer (some ⟨p9, 0, none⟩)]⟩] _ := E
  refine WL_nil ?_
  refine T_n ?_
  refine WP_seq ?_
  refine WP_region ?_
  refine S_v E rfl (R_move E rfl) rfl ?_
  clear E a; intro a E
  refine S_v E rfl (R_nilCheck E rfl rfl) rfl ?_
  clear E a; intro a E
  refine S_v E rfl (R_fieldAddr E rfl (FA144_1 _)) rfl ?_
  clear E a; intro a E
  refine S_v E rfl (R_load E rfl (Tryz.isAgg116 _) (cell_blkf (S.mem (.head _)) rfl)) rfl ?_
  clear E a; intro a E
  refine S_v E rfl (R_move E rfl) rfl ?_
  clear E a; intro a E
  replace S := S.front2
  replace S := S.front2
  refine S_x (X_sp (p := [blk b9 (.cells #[.map (some m9)] 145), OwnS m9 l9]) E S rfl rfl rfl (O_PopN (by first | assumption | exact List.nodup_nil | exact addsL_nodup _ _ (by assumption) | exact addsL_nodup _ _ List.nodup_nil) (by first | assumption | omega | (simp only [List.length_nil]; omega))) (Hp.le.refl _) ?_)
  clear E a S; rintro a _ w M_2 _ hM_2 ⟨l_3, v_4, p_5, rfl, rfl, hx_6, hx_7, hx_8, hx_9, hx_10⟩ S E
  replace S : St w M_2 (blk b9 (.cells #[.map (some m9)] 145) :: OwnS m9 l_3 :: OwnI 3 v_4 p_5 :: blk p9 (.cells #[.int .i32 1, .int .u32 0, .int .u32 0, .int .u32 0, .int .i32 (-1073741824), .int .i32 0, .pointer (some ⟨b9, 0, none⟩)] 144) :: H) := S
  refine S_v E rfl (R_extract E rfl rfl) rfl ?_
  clear E a; intro a E
  refine S_v E rfl (R_extract E rfl rfl) rfl ?_
  clear E a; intro a E
  refine S_v E rfl (R_assign E rfl) rfl ?_
  clear E a; intro a E
  refine S_v E rfl (R_assign E rfl) rfl ?_
  clear E a; intro a E
  refine WL_nil ?_
  refine T_n ?_
  refine WP_ret ?_
  replace S := S.front2
  replace S := S.front2
  replace S := S.front2
  replace S := S.front3
  refine F_retL2 E Tryz.results178 rfl rfl (fun hres => ?_)
  clear E
  replace S : St w M_2 (LKw p9 144 (.pointer (some ⟨b9, 0, none⟩)) :: _) := S
  refine LV_wunlock Tryz.rwWLib S (fun w S => ?_)
  replace S : St w M_2 (blk p9 (.cells #[.int .i32 0, .int .u32 0, .int .u32 0, .int .u32 0, .int .i32 0, .int .i32 0, .pointer (some ⟨b9, 0, none⟩)] 144) :: blk b9 (.cells #[.map (some m9)] 145) :: OwnS m9 l_3 :: OwnI 3 v_4 p_5 :: H) := S
  replace S := S.front3
  replace S := S.front3
  replace S := S.front3
  replace S := S.front3
  exact LV_nil (hres _) ⟨_, rfl, M_2, _, (hM_1.trans hM_2), ⟨_, _, _, rfl, rfl, (by assumption), (by assumption), (by assumption), (by assumption), (by assumption)⟩, S⟩

set_option maxRecDepth 100000 in
set_option maxHeartbeats 4000000 in
theorem reg_PopN {M : Hp} {x0 : Bool} {v : Value} {t : List RG} {i : Nat} {x : RG} {n : Int} (hx : t[i]? = some x) (hb : x.2.2.length ≤ 1000000000) :
    InvSp Tryz.prog (ifv KS x0 x) "PopN" M [.int .i64 n] [Regs KS x0 v t] (fun r _ C' => ∃ L D, C' = Regs KS x0 v (t.set i (x.w L)) :: D ∧ (∃ u p, r = .tuple #[u, .int .i64 ((p.length : Nat) : Int)] ∧ L = setDif x.2.2 p ∧ p.Nodup ∧ (∀ z ∈ p, z ∈ x.2.2) ∧ p.length = min n.toNat (card x.2.2) ∧ D = [OwnI 3 u p])) := by
  refine reg_canon (Φ := fun r l' D => ∃ u p, r = .tuple #[u, .int .i64 ((p.length : Nat) : Int)] ∧ (∀ z, z ∈ l' ↔ z ∈ x.2.2 ∧ z ∉ p) ∧ p.Nodup ∧ (∀ z ∈ p, z ∈ x.2.2) ∧ p.length = min n.toNat (card x.2.2) ∧ D = [OwnI 3 u p]) (reg_liftD hx ?_) fun r l' D ⟨u, p, h1, h2, h3⟩ => ⟨setDif x.2.2 p, fun z => (h2 z).trans mem_dif.symm, u, p, h1, rfl, h3⟩
  cases x0
  · exact mutU_ptr (fun p w => meth_116_PopN p w) Tryz.call199 fun b m q hn hq => by have hql : q.length ≤ x.2.2.length := nodup_len hn fun z hz => (hq z).1 hz; exact spConv (O_PopN hn (by omega)) fun r M2 C ⟨l', u, p, h1, h2, h3, h4, h5, h6, h7⟩ => ⟨l', [OwnI 3 u p], h1, h3, u, p, h2, fun z => (h7 z).trans (by rw [hq]), h4, fun z hz => (hq z).1 (h5 z hz), by rw [h6, card_eq hn hq], rfl⟩
  · exact mutS (fun p w => meth_114_PopN p w) Tryz.call178 fun b m q hn hq => by have hql : q.length ≤ x.2.2.length := nodup_len hn fun z hz => (hq z).1 hz; exact spConv (OS_PopN hn (by omega)) fun r M2 C ⟨l', u, p, h1, h2, h3, h4, h5, h6, h7⟩ => ⟨l', [OwnI 3 u p], h1, h3, u, p, h2, fun z => (h7 z).trans (by rw [hq]), h4, fun z hz => (hq z).1 (h5 z hz), by rw [h6, card_eq hn hq], rfl⟩

set_option maxRecDepth 100000 in
set_option maxHeartbeats 4000000 in
theorem O_NewThreadUnsafeSetWithSize {M : Hp} {n0 : Nat} (hb0 : n0 ≤ 1000000000000) :
    Sp Tryz.prog (.func (.func 109) #[] #[]) M [.int .i64 ((n0 : Nat) : Int)] [] (fun r M' C' => ∃ b_ m_, C' = [blk b_ (.cells #[.map (some m_)] 145), OwnS m_ ([] : List Int)] ∧ r = .iface 116 (.pointer (some ⟨b_, 0, none⟩))) := by
  refine Sp_enter Tryz.func109 rfl Tryz.ntmps109 rfl Tryz.call109 ?_
  intro a w M1 H hM1 S E
  refine WP_seq ?_
  refine WP_region ?_
  refine S_v E rfl (R_assign E rfl) rfl ?_
  clear E a; intro a E
  refine WL_nil ?_
  refine T_n ?_
  refine WP_seq ?_
  refine WP_region ?_
  refine S_v E rfl (R_move E rfl) rfl ?_
  clear E a; intro a E
  refine S_x (X_sp (p := []) E S rfl rfl rfl (U_new (by first | assumption | omega)) (Hp.le.refl _) ?_)
  clear E a S; rintro a _ w M_1 _ hM_1 ⟨b_3, mm_4, rfl, rfl⟩ S E
  replace S : St w M_1 (blk b_3 (.cells #[.map (some mm_4)] 145) :: OwnS mm_4 ([] : List Int) :: H) := S
  refine S_v E rfl (R_assign E rfl) rfl ?_
  clear E a; intro a E
  refine WL_nil ?_
  refine T_n ?_
  refine WP_seq ?_
  refine WP_region ?_
  refine S_v E rfl (R_move E rfl) rfl ?_
  clear E a; intro a E
  refine S_v E rfl (R_ifaceP E rfl Tryz.underlying116) rfl ?_
  clear E a; intro a E
  refine S_v E rfl (R_assign E rfl) rfl ?_
  clear E a; intro a E
  refine WL_nil ?_
  refine T_n ?_
  refine WP_ret ?_
  replace S := S.front1
  replace S := S.front1
  exact F_ret1 E Tryz.results109 rfl ⟨_, rfl, M_1, _, hM_1, ⟨_, _, rfl, rfl⟩, S⟩

set_option maxRecDepth 100000 in
set_option maxHeartbeats 4000000 in
theorem O_NewThreadUnsafeSetFromMapKeys {M : Hp} {m0 : Value} {q0 : List (Int × Bool)} (hm0 : RdM M m0 (encE Value.bool q0)) (hb : q0.length ≤ 1000000000) :
    Sp Tryz.prog (.func (.func 90) #[] #[]) M [m0] [] (fun r M' C' => ∃ b_ m_ l_, C' = [blk b_ (.cells #[.map (some m_)] 145), OwnS m_ l_] ∧ r = .iface 116 (.pointer (some ⟨b_, 0, none⟩)) ∧ (l_.Nodup) ∧ (∀ z, z ∈ l_ ↔ z ∈ q0.map Prod.fst)) := by
  refine Sp_enter Tryz.func90 rfl Tryz.ntmps90 rfl Tryz.call90 ?_
  intro a w M1 H hM1 S E
  replace hm0 := hm0.le hM1
  refine WP_seq ?_
  refine WP_region ?_
  refine S_v E rfl (R_assign E rfl) rfl ?_
  clear E a; intro a E
  refine WL_nil ?_
  refine T_n ?_
  refine WP_seq ?_
  refine WP_region ?_
  refine S_v E rfl (R_move E rfl) rfl ?_
  clear E a; intro a E
  refine S_v E rfl ((R_lenF S.imm hm0 E MT106 rfl).trans (by rw [encE_len])) rfl ?_
  clear E a; intro a E
  refine S_x (X_sp (p := []) E S rfl rfl rfl (O_NewThreadUnsafeSetWithSize (by first | assumption | omega)) (Hp.le.refl _) ?_)
  clear E a S; rintro a _ w M_1 _ hM_1 ⟨b_2, m_3, rfl, rfl⟩ S E
  replace S : St w M_1 (blk b_2 (.cells #[.map (some m_3)] 145) :: OwnS m_3 ([] : List Int) :: H) := S
  replace hm0 := hm0.le hM_1
  refine S_v E rfl (R_assign E rfl) rfl ?_
  clear E a; intro a E
  refine WL_nil ?_
  refine T_n ?_
  refine WP_seq ?_
  refine WP_seq ?_
  refine WP_region ?_
  refine S_v E rfl (R_move E rfl) rfl ?_
  clear E a; intro a E
  refine S_x (X_range E S rfl MT106 hm0 rfl ?_)
  clear E a S; rintro a w i_4 es_5 ck_6 E hf_7 S
  replace S : St w M_1 (ItO m0 es_5 ck_6 i_4 (encE Value.bool ([] : List (Int × Bool))) :: _) := S
  refine WL_nil ?_
  refine T_n ?_
  refine WP_block ?_
  replace S := S.front2
  replace S := S.front1
  replace S := S.front1
  replace S := S.reM (L' := (Sl.encS (addsL [] (([] : List (Int × Bool)).map Prod.fst)))) (congrArg Sl.encS (show ([] : List Int) = (addsL [] (([] : List (Int × Bool)).map Prod.fst)) by first | rfl | (simp [addsL]; done) | (simp [addsL_snoc]; done)))
  replace S := S.front1
  refine WP_loop (γ := List (Int × Bool)) (fun (p : List (Int × Bool)) a w => ∃ (M_8 : Hp), Hp.le M_1 M_8 ∧ St w M_8 (ItO m0 es_5 ck_6 i_4 (encE Value.bool p) :: OwnS m_3 (addsL [] (p.map Prod.fst)) :: blk b_2 (.cells #[.map (some m_3)] 145) :: H) ∧ Env a 18 [] [(3, .iface 116 (.pointer (some ⟨b_2, 0, none⟩))), (9, .pointer (some ⟨i_4, 0, none⟩))] ∧ ((p.map Prod.fst).Nodup) ∧ (∀ z ∈ p, z ∈ q0) ∧ (p.length ≤ q0.length)) (fun p => q0.length - p.length) ([] : List (Int × Bool)) ⟨M_1, Hp.le.refl _, S, E.keep ⟨rfl, rfl, trivial⟩, (by simp), (by simp), (by simp)⟩ ?_
  try clear E
  try clear S
  try clear a
  try clear w
  rintro p a w ⟨M_8, hM_8, S, E, hL0_0, hL0_1, hL0_2⟩
  replace hm0 := hm0.le hM_8
  replace hf_7 := hf_7.le hM_8
  refine WP_seq ?_
  refine WP_region ?_
  refine S_x (X_nextE (vf := Value.bool) E S rfl hf_7 rfl (by assumption) (by assumption) ?_ ?_)
  · clear E a S; rintro a E hpm_9 S
    refine S_v E rfl (R_extract E rfl rfl) rfl ?_
    clear E a; intro a E
    refine WL_nil ?_
    refine T_n ?_
    refine WP_seq ?_
    refine WP_condF E rfl rfl ?_
    refine WP_exit ?_
    refine T_x ?_
    refine T_x ?_
    refine B_x ?_
    refine T_n ?_
    refine WP_seq ?_
    refine WP_region ?_
    refine S_v E rfl (R_move E rfl) rfl ?_
    clear E a; intro a E
    refine S_v E rfl (R_assign E rfl) rfl ?_
    clear E a; intro a E
    refine WL_nil ?_
    refine T_n ?_
    refine WP_ret ?_
    replace S := S.drop
    replace S := S.front1
    exact F_ret1 E Tryz.results90 rfl ⟨_, rfl, M_8, _, (hM_1.trans hM_8), ⟨_, _, _, rfl, rfl, (by (first | assumption | exact addsL_nodup _ _ List.nodup_nil | exact addsL_nodup _ _ (addsL_nodup _ _ List.nodup_nil))), (by (intro z; have ep := List.Perm.map Prod.fst (show p.Perm q0 by first | assumption | (exact List.Perm.symm (by assumption))); have e9 := List.Perm.mem_iff (a := z) ep; simp only [mem_addsL, List.not_mem_nil, false_or]; exact e9))⟩, S⟩
  · clear E a S w; rintro a w k_10 u_12 E hk_11 hk_11n hk_11l S
    refine S_v E rfl (R_extract E rfl rfl) rfl ?_
    clear E a; intro a E
    refine WL_nil ?_
    refine T_n ?_
    refine WP_seq ?_
    refine WP_condT E rfl rfl ?_
    refine WP_skip ?_
    refine T_n ?_
    refine WP_block ?_
    refine WP_seq ?_
    refine WP_region ?_
    refine S_v E rfl (R_entry (k := k_10) (v := .bool u_12) E (by have S1 := S; simp only [encE, List.map_append, List.map_cons, List.map_nil] at S1; exact S1) hf_7 rfl) rfl ?_
    clear E a; intro a E
    refine S_v E rfl (R_extract E rfl rfl) rfl ?_
    clear E a; intro a E
    refine S_v E rfl (R_assign E rfl) rfl ?_
    clear E a; intro a E
    refine WL_nil ?_
    refine T_n ?_
    refine WP_region ?_
    refine S_v E rfl (R_move E rfl) rfl ?_
    clear E a; intro a E
    refine S_v E rfl (R_move E rfl) rfl ?_
    clear E a; intro a E
    have hmc_13 := cell_blk (S.mem (.tail _ (.tail _ (.head _))))
    replace S := S.front1
    refine S_x (X_spI (p := [OwnS m_3 (addsL [] (p.map Prod.fst))]) E S rfl rfl rfl (meth_116_Add rfl hmc_13) Tryz.call86 (U_Add) (Hp.le.refl _) ?_)
    clear E a S; rintro a _ w M_14 _ hM_14 ⟨⟨_, rfl⟩, rfl⟩ S E
    replace S : St w M_14 (OwnS m_3 (addS (addsL [] (p.map Prod.fst)) k_10) :: ItO m0 es_5 ck_6 i_4 (encE Value.bool (p ++ [(k_10, u_12)])) :: blk b_2 (.cells #[.map (some m_3)] 145) :: H) := S
    replace hm0 := hm0.le hM_14
    replace hf_7 := hf_7.le hM_14
    refine WL_nil ?_
    refine B_n ?_
    refine T_n ?_
    replace S := S.front2
    replace S := S.front1
    replace S := S.front2
    replace S := S.front1
    replace S := S.reM (L' := (Sl.encS (addsL [] ((p ++ [(k_10, u_12)]).map Prod.fst)))) (congrArg Sl.encS (show addS (addsL [] (p.map Prod.fst)) k_10 = (addsL [] ((p ++ [(k_10, u_12)]).map Prod.fst)) by first | rfl | (simp [addsL]; done) | (simp [addsL_snoc]; done)))
    replace S := S.front1
    replace S := S.reIt (p' := (encE Value.bool (p ++ [(k_10, u_12)]))) (congrArg (encE Value.bool) (show p ++ [(k_10, u_12)] = (p ++ [(k_10, u_12)]) by first | rfl | (simp [addsL]; done) | (simp [addsL_snoc]; done)))
    exact ⟨(p ++ [(k_10, u_12)]), ⟨M_14, (hM_8.trans hM_14), S, E.keep ⟨rfl, rfl, trivial⟩, (by exact snocNG (by assumption) (by assumption)), (by exact snocSG (by assumption) (by assumption)), (by simp; omega)⟩, (by simp; omega)⟩

set_option maxRecDepth 100000 in
set_option maxHeartbeats 4000000 in
theorem O_keySet {M : Hp} {v1 : Value} {l1 : List Int} (h1 : RdI M v1 l1)(hb : l1.length ≤ 1000000000) :
    Sp Tryz.prog (.func (.func 63) #[] #[]) M [.bool false, v1] [] (fun r M' C' => ∃ b_ m_ l_, C' = [blk b_ (.cells #[.map (some m_)] 145), OwnS m_ l_] ∧ r = .iface 116 (.pointer (some ⟨b_, 0, none⟩)) ∧ (l_.Nodup) ∧ (∀ z, z ∈ l_ ↔ z ∈ l1)) := by
  refine Sp_enter Tryz.func63 rfl Tryz.ntmps63 rfl Tryz.call63 ?_
  intro a w M1 H hM1 S E
  replace h1 := h1.le hM1
  have b1 := h1.bound
  have hmb := (mkB_spec l1).2
  refine WP_seq ?_
  refine WP_region ?_
  refine S_v E rfl (R_assign E rfl) rfl ?_
  clear E a; intro a E
  refine WL_nil ?_
  refine T_n ?_
  refine WP_seq ?_
  refine WP_region ?_
  refine S_x (X_makeMap E S rfl ?_)
  clear E a S; rintro a w b_1 E S
  replace S : St w M1 (OwnE Value.bool b_1 ([] : List (Int × Bool)) :: _) := S
  refine S_v E rfl (R_assign E rfl) rfl ?_
  clear E a; intro a E
  refine WL_nil ?_
  refine T_n ?_
  refine WP_seq ?_
  refine WP_seq ?_
  refine WP_region ?_
  refine S_v E rfl (R_move E rfl) rfl ?_
  clear E a; intro a E
  refine S_v E rfl (R_lenV E rfl T22 h1.len) rfl ?_
  clear E a; intro a E
  refine S_v E rfl (R_move E rfl) rfl ?_
  clear E a; intro a E
  refine WL_nil ?_
  refine T_n ?_
  refine WP_block ?_
  replace S := S.reM (L' := (encE Value.bool (mkB (l1.take 0)))) (congrArg (encE Value.bool) (show ([] : List (Int × Bool)) = mkB (l1.take 0) by first | rfl | exact mkB_take (by assumption)))
  refine WP_loop (γ := Nat) (fun (k : Nat) a w => ∃ (M_2 : Hp), Hp.le M1 M_2 ∧ St w M_2 (OwnE Value.bool b_1 (mkB (l1.take k)) :: H) ∧ Env a 23 [] [(0, .bool false), (5, .map (some b_1)), (9, v1), (10, .int .i64 (((l1).length : Nat) : Int)), (11, .int .i64 ((k : Nat) : Int))] ∧ (k ≤ (l1).length)) (fun k => ((l1).length) - k) 0 ⟨M1, Hp.le.refl _, S, E.keep ⟨rfl, rfl, rfl, rfl, rfl, trivial⟩, by ((try clear S); (try clear E); first | assumption | omega | rfl | (simp; done) | (simp_all; done) | (simp [List.take_add_one, *]; done) | grind [List.take_add_one])⟩ ?_
  try clear E
  try clear S
  try clear a
  try clear w
  rintro k a w ⟨M_2, hM_2, S, E, hL0_0⟩
  replace h1 := h1.le hM_2
  refine WP_seq ?_
  refine WP_region ?_
  refine S_v E rfl (R_lss E rfl rfl) rfl ?_
  clear E a; intro a E
  refine WL_nil ?_
  refine T_n ?_
  refine WP_seq ?_
  refine WP_cond E rfl (fun hc_3 => ?_) (fun hc_3 => ?_)
  · replace hc_3 := of_decide_eq_true hc_3
    refine WP_skip ?_
    refine T_n ?_
    refine WP_seq ?_
    refine WP_block ?_
    refine WP_seq ?_
    refine WP_region ?_
    obtain ⟨x_4, hx_4⟩ : ∃ x, (l1)[k]? = some x := ⟨_, List.getElem?_eq_getElem (by first | omega | (simp; done) | (simp; omega) | (simp_all; omega))⟩
    obtain ⟨p_5, hp_5, qp_5⟩ := h1.at hx_4
    refine S_v E rfl (R_idx E rfl rfl T22 hp_5 rfl) rfl ?_
    clear E a; intro a E
    refine S_v E rfl (R_loadM E rfl Tryz.isAgg3 S.imm qp_5) rfl ?_
    clear E a; intro a E
    refine S_v E rfl (R_assign E rfl) rfl ?_
    clear E a; intro a E
    refine WL_nil ?_
    refine T_n ?_
    refine WP_region ?_
    refine S_v E rfl (R_move E rfl) rfl ?_
    clear E a; intro a E
    refine S_v E rfl (R_move E rfl) rfl ?_
    clear E a; intro a E
    refine S_x0 (X_updateE (vf := Value.bool) (u := true) E S MT106 rfl rfl rfl ?_)
    clear E a S; rintro a w E S
    refine WL_nil ?_
    refine B_n ?_
    refine T_n ?_
    refine WP_region ?_
    refine S_v E rfl (R_addx (m := ((k + 1 : Nat) : Int)) E rfl rfl (by omega) (by omega)) rfl ?_
    clear E a; intro a E
    refine S_v E rfl (R_move E rfl) rfl ?_
    clear E a; intro a E
    refine WL_nil ?_
    refine T_n ?_
    replace S := S.reM (L' := (encE Value.bool (mkB (l1.take (k + 1))))) (congrArg (encE Value.bool) (show putK (mkB (l1.take k)) x_4 true = mkB (l1.take (k + 1)) by first | rfl | exact mkB_take (by assumption)))
    exact ⟨k + 1, ⟨M_2, hM_2, S, E.keep ⟨rfl, rfl, rfl, rfl, rfl, trivial⟩, by ((try clear S); (try clear E); first | assumption | omega | rfl | (simp; done) | (simp_all; done) | (simp [List.take_add_one, *]; done) | grind [List.take_add_one])⟩, by omega⟩
  · replace hc_3 := of_decide_eq_false hc_3
    refine WP_exit ?_
    refine T_x ?_
    refine T_x ?_
    refine B_x ?_
    refine T_n ?_
    refine WP_seq ?_
    refine WP_seq ?_
    refine WP_region ?_
    refine S_v E rfl (R_move E rfl) rfl ?_
    clear E a; intro a E
    refine WL_nil ?_
    refine T_n ?_
    refine WP_condF E rfl rfl ?_
    refine WP_skip ?_
    refine T_n ?_
    refine WP_seq ?_
    refine WP_region ?_
    refine S_v E rfl (R_move E rfl) rfl ?_
    clear E a; intro a E
    have S0 := S; clear S
    obtain ⟨M_6, hM_6, hm_7, S⟩ := S0.freezeM
    clear S0
    replace h1 := h1.le hM_6
    refine S_x (X_sp (p := []) E S rfl rfl rfl (O_NewThreadUnsafeSetFromMapKeys hm_7 (by first | assumption | omega | (rw [List.take_of_length_le (by omega)]; omega))) (Hp.le.refl _) ?_)
    clear E a S; rintro a _ w M_8 _ hM_8 ⟨b_9, m_10, l_11, rfl, rfl, hx_12, hx_13⟩ S E
    replace S : St w M_8 (blk b_9 (.cells #[.map (some m_10)] 145) :: OwnS m_10 l_11 :: H) := S
    replace h1 := h1.le hM_8
    replace hm_7 := hm_7.le hM_8
    refine S_v E rfl (R_assign E rfl) rfl ?_
    clear E a; intro a E
    refine WL_nil ?_
    refine T_n ?_
    refine WP_ret ?_
    replace S := S.front1
    replace S := S.front1
    exact F_ret1 E Tryz.results63 rfl ⟨_, rfl, M_8, _, (hM_2.trans (hM_6.trans hM_8)), ⟨_, _, _, rfl, rfl, (by assumption), (by (intro z; first | exact (by assumption : ∀ z, z ∈ _ ↔ z ∈ (mkB (l1.take k)).map Prod.fst) z |>.trans (by rw [List.take_of_length_le (by omega)]; exact (mkB_spec l1).1 z)))⟩, S⟩

set_option maxRecDepth 100000 in
set_option maxHeartbeats 4000000 in
theorem OS_NewSetWithSize {M : Hp} {n0 : Nat} (hb0 : n0 ≤ 1000000000000) :
    Sp Tryz.prog (.func (.func 108) #[] #[]) M [.int .i64 ((n0 : Nat) : Int)] [] (fun r M' C' => ∃ p_ b_ m_, C' = [blk p_ (.cells #[.int .i32 0, .int .u32 0, .int .u32 0, .int .u32 0, .int .i32 0, .int .i32 0, .pointer (some ⟨b_, 0, none⟩)] 144), blk b_ (.cells #[.map (some m_)] 145), OwnS m_ ([] : List Int)] ∧ r = .iface 114 (.pointer (some ⟨p_, 0, none⟩))) := by
  refine Sp_enter Tryz.func108 rfl Tryz.ntmps108 rfl Tryz.call108 ?_
  intro a w M1 H hM1 S E
  refine WP_seq ?_
  refine WP_region ?_
  refine S_v E rfl (R_assign E rfl) rfl ?_
  clear E a; intro a E
  refine WL_nil ?_
  refine T_n ?_
  refine WP_seq ?_
  refine WP_region ?_
  refine S_v E rfl (R_move E rfl) rfl ?_
  clear E a; intro a E
  refine S_x (X_sp (p := []) E S rfl rfl rfl (S_new (by first | assumption | omega)) (Hp.le.refl _) ?_)
  clear E a S; rintro a _ w M_1 _ hM_1 ⟨p_2, b_3, mm_4, rfl, rfl⟩ S E
  replace S : St w M_1 (blk p_2 (.cells #[.int .i32 0, .int .u32 0, .int .u32 0, .int .u32 0, .int .i32 0, .int .i32 0, .pointer (some ⟨b_3, 0, none⟩)] 144) :: blk b_3 (.cells #[.map (some mm_4)] 145) :: OwnS mm_4 ([] : List Int) :: H) := S
  refine S_v E rfl (R_assign E rfl) rfl ?_
  clear E a; intro a E
  refine WL_nil ?_
  refine T_n ?_
  refine WP_seq ?_
  refine WP_region ?_
  refine S_v E rfl (R_move E rfl) rfl ?_
  clear E a; intro a E
  refine S_v E rfl (R_ifaceP E rfl Tryz.underlying114) rfl ?_
  clear E a; intro a E
  refine S_v E rfl (R_assign E rfl) rfl ?_
  clear E a; intro a E
  refine WL_nil ?_
  refine T_n ?_
  refine WP_ret ?_
  replace S := S.front2
  replace S := S.front2
  replace S := S.front2
  exact F_ret1 E Tryz.results108 rfl ⟨_, rfl, M_1, _, hM_1, ⟨_, _, _, rfl, rfl⟩, S⟩

set_option maxRecDepth 100000 in
set_option maxHeartbeats 4000000 in
theorem OS_NewSetFromMapKeys {M : Hp} {m0 : Value} {q0 : List (Int × Bool)} (hm0 : RdM M m0 (encE Value.bool q0)) (hb : q0.length ≤ 1000000000) :
    Sp Tryz.prog (.func (.func 89) #[] #[]) M [m0] [] (fun r M' C' => ∃ p_ b_ m_ l_, C' = [blk p_ (.cells #[.int .i32 0, .int .u32 0, .int .u32 0, .int .u32 0, .int .i32 0, .int .i32 0, .pointer (some ⟨b_, 0, none⟩)] 144), blk b_ (.cells #[.map (some m_)] 145), OwnS m_ l_] ∧ r = .iface 114 (.pointer (some ⟨p_, 0, none⟩)) ∧ (l_.Nodup) ∧ (∀ z, z ∈ l_ ↔ z ∈ q0.map Prod.fst)) := by
  refine Sp_enter Tryz.func89 rfl Tryz.ntmps89 rfl Tryz.call89 ?_
  intro a w M1 H hM1 S E
  replace hm0 := hm0.le hM1
  refine WP_seq ?_
  refine WP_region ?_
  refine S_v E rfl (R_assign E rfl) rfl ?_
  clear E a; intro a E
  refine WL_nil ?_
  refine T_n ?_
  refine WP_seq ?_
  refine WP_region ?_
  refine S_v E rfl (R_move E rfl) rfl ?_
  clear E a; intro a E
  refine S_v E rfl ((R_lenF S.imm hm0 E MT106 rfl).trans (by rw [encE_len])) rfl ?_
  clear E a; intro a E
  refine S_x (X_sp (p := []) E S rfl rfl rfl (OS_NewSetWithSize (by first | assumption | omega)) (Hp.le.refl _) ?_)
  clear E a S; rintro a _ w M_1 _ hM_1 ⟨p_2, b_3, m_4, rfl, rfl⟩ S E
  replace S : St w M_1 (blk p_2 (.cells #[.int .i32 0, .int .u32 0, .int .u32 0, .int .u32 0, .int .i32 0, .int .i32 0, .pointer (some ⟨b_3, 0, none⟩)] 144) :: blk b_3 (.cells #[.map (some m_4)] 145) :: OwnS m_4 ([] : List Int) :: H) := S
  replace hm0 := hm0.le hM_1
  refine S_v E rfl (R_assign E rfl) rfl ?_
  clear E a; intro a E
  refine WL_nil ?_
  refine T_n ?_
  refine WP_seq ?_
  refine WP_seq ?_
  refine WP_region ?_
  refine S_v E rfl (R_move E rfl) rfl ?_
  clear E a; intro a E
  refine S_x (X_range E S rfl MT106 hm0 rfl ?_)
  clear E a S; rintro a w i_5 es_6 ck_7 E hf_8 S
  replace S : St w M_1 (ItO m0 es_6 ck_7 i_5 (encE Value.bool ([] : List (Int × Bool))) :: _) := S
  refine WL_nil ?_
  refine T_n ?_
  refine WP_block ?_
  replace S := S.front3
  replace S := S.front1
  replace S := S.front1
  replace S := S.reM (L' := (Sl.encS (addsL [] (([] : List (Int × Bool)).map Prod.fst)))) (congrArg Sl.encS (show ([] : List Int) = (addsL [] (([] : List (Int × Bool)).map Prod.fst)) by first | rfl | (simp [addsL]; done) | (simp [addsL_snoc]; done)))
  replace S := S.front1
  refine WP_loop (γ := List (Int × Bool)) (fun (p : List (Int × Bool)) a w => ∃ (M_9 : Hp), Hp.le M_1 M_9 ∧ St w M_9 (ItO m0 es_6 ck_7 i_5 (encE Value.bool p) :: OwnS m_4 (addsL [] (p.map Prod.fst)) :: blk p_2 (.cells #[.int .i32 0, .int .u32 0, .int .u32 0, .int .u32 0, .int .i32 0, .int .i32 0, .pointer (some ⟨b_3, 0, none⟩)] 144) :: blk b_3 (.cells #[.map (some m_4)] 145) :: H) ∧ Env a 18 [] [(3, .iface 114 (.pointer (some ⟨p_2, 0, none⟩))), (9, .pointer (some ⟨i_5, 0, none⟩))] ∧ ((p.map Prod.fst).Nodup) ∧ (∀ z ∈ p, z ∈ q0) ∧ (p.length ≤ q0.length)) (fun p => q0.length - p.length) ([] : List (Int × Bool)) ⟨M_1, Hp.le.refl _, S, E.keep ⟨rfl, rfl, trivial⟩, (by simp), (by simp), (by simp)⟩ ?_
  try clear E
  try clear S
  try clear a
  try clear w
  rintro p a w ⟨M_9, hM_9, S, E, hL0_0, hL0_1, hL0_2⟩
  replace hm0 := hm0.le hM_9
  replace hf_8 := hf_8.le hM_9
  refine WP_seq ?_
  refine WP_region ?_
  refine S_x (X_nextE (vf := Value.bool) E S rfl hf_8 rfl (by assumption) (by assumption) ?_ ?_)
  · clear E a S; rintro a E hpm_10 S
    refine S_v E rfl (R_extract E rfl rfl) rfl ?_
    clear E a; intro a E
    refine WL_nil ?_
    refine T_n ?_
    refine WP_seq ?_
    refine WP_condF E rfl rfl ?_
    refine WP_exit ?_
    refine T_x ?_
    refine T_x ?_
    refine B_x ?_
    refine T_n ?_
    refine WP_seq ?_
    refine WP_region ?_
    refine S_v E rfl (R_move E rfl) rfl ?_
    clear E a; intro a E
    refine S_v E rfl (R_assign E rfl) rfl ?_
    clear E a; intro a E
    refine WL_nil ?_
    refine T_n ?_
    refine WP_ret ?_
    replace S := S.drop
    replace S := S.front2
    replace S := S.front2
    exact F_ret1 E Tryz.results89 rfl ⟨_, rfl, M_9, _, (hM_1.trans hM_9), ⟨_, _, _, _, rfl, rfl, (by (first | assumption | exact addsL_nodup _ _ List.nodup_nil | exact addsL_nodup _ _ (addsL_nodup _ _ List.nodup_nil))), (by (intro z; have ep := List.Perm.map Prod.fst (show p.Perm q0 by first | assumption | (exact List.Perm.symm (by assumption))); have e9 := List.Perm.mem_iff (a := z) ep; simp only [mem_addsL, List.not_mem_nil, false_or]; exact e9))⟩, S⟩
  · clear E a S w; rintro a w k_11 u_13 E hk_12 hk_12n hk_12l S
    refine S_v E rfl (R_extract E rfl rfl) rfl ?_
    clear E a; intro a E
    refine WL_nil ?_
    refine T_n ?_
    refine WP_seq ?_
    refine WP_condT E rfl rfl ?_
    refine WP_skip ?_
    refine T_n ?_
    refine WP_block ?_
    refine WP_seq ?_
    refine WP_region ?_
    refine S_v E rfl (R_entry (k := k_11) (v := .bool u_13) E (by have S1 := S; simp only [encE, List.map_append, List.map_cons, List.map_nil] at S1; exact S1) hf_8 rfl) rfl ?_
    clear E a; intro a E
    refine S_v E rfl (R_extract E rfl rfl) rfl ?_
    clear E a; intro a E
    refine S_v E rfl (R_assign E rfl) rfl ?_
    clear E a; intro a E
    refine WL_nil ?_
    refine T_n ?_
    refine WP_region ?_
    refine S_v E rfl (R_move E rfl) rfl ?_
    clear E a; intro a E
    refine S_v E rfl (R_move E rfl) rfl ?_
    clear E a; intro a E
    replace S := S.front1
    replace S := S.front3
    replace S := S.front3
    refine S_x (X_spI (p := [blk p_2 (.cells #[.int .i32 0, .int .u32 0, .int .u32 0, .int .u32 0, .int .i32 0, .int .i32 0, .pointer (some ⟨b_3, 0, none⟩)] 144), blk b_3 (.cells #[.map (some m_4)] 145), OwnS m_4 (addsL [] (p.map Prod.fst))]) E S rfl rfl rfl (meth_114_Add _ _) Tryz.call84 (S_Add) (Hp.le.refl _) ?_)
    clear E a S; rintro a _ w M_14 _ hM_14 ⟨⟨_, rfl⟩, rfl⟩ S E
    replace S : St w M_14 (blk p_2 (.cells #[.int .i32 0, .int .u32 0, .int .u32 0, .int .u32 0, .int .i32 0, .int .i32 0, .pointer (some ⟨b_3, 0, none⟩)] 144) :: blk b_3 (.cells #[.map (some m_4)] 145) :: OwnS m_4 (addS (addsL [] (p.map Prod.fst)) k_11) :: ItO m0 es_6 ck_7 i_5 (encE Value.bool (p ++ [(k_11, u_13)])) :: H) := S
    replace hm0 := hm0.le hM_14
    replace hf_8 := hf_8.le hM_14
    refine WL_nil ?_
    refine B_n ?_
    refine T_n ?_
    replace S := S.front1
    replace S := S.front1
    replace S := S.front2
    replace S := S.front3
    replace S := S.front1
    replace S := S.reM (L' := (Sl.encS (addsL [] ((p ++ [(k_11, u_13)]).map Prod.fst)))) (congrArg Sl.encS (show addS (addsL [] (p.map Prod.fst)) k_11 = (addsL [] ((p ++ [(k_11, u_13)]).map Prod.fst)) by first | rfl | (simp [addsL]; done) | (simp [addsL_snoc]; done)))
    replace S := S.front1
    replace S := S.reIt (p' := (encE Value.bool (p ++ [(k_11, u_13)]))) (congrArg (encE Value.bool) (show p ++ [(k_11, u_13)] = (p ++ [(k_11, u_13)]) by first | rfl | (simp [addsL]; done) | (simp [addsL_snoc]; done)))
    exact ⟨(p ++ [(k_11, u_13)]), ⟨M_14, (hM_9.trans hM_14), S, E.keep ⟨rfl, rfl, trivial⟩, (by exact snocNG (by assumption) (by assumption)), (by exact snocSG (by assumption) (by assumption)), (by simp; omega)⟩, (by simp; omega)⟩

set_option maxRecDepth 100000 in
set_option maxHeartbeats 4000000 in
theorem OS_keySet {M : Hp} {v1 : Value} {l1 : List Int} (h1 : RdI M v1 l1)(hb : l1.length ≤ 1000000000) :
    Sp Tryz.prog (.func (.func 63) #[] #[]) M [.bool true, v1] [] (fun r M' C' => ∃ p_ b_ m_ l_, C' = [blk p_ (.cells #[.int .i32 0, .int .u32 0, .int .u32 0, .int .u32 0, .int .i32 0, .int .i32 0, .pointer (some ⟨b_, 0, none⟩)] 144), blk b_ (.cells #[.map (some m_)] 145), OwnS m_ l_] ∧ r = .iface 114 (.pointer (some ⟨p_, 0, none⟩)) ∧ (l_.Nodup) ∧ (∀ z, z ∈ l_ ↔ z ∈ l1)) := by
  refine Sp_enter Tryz.func63 rfl Tryz.ntmps63 rfl Tryz.call63 ?_
  intro a w M1 H hM1 S E
  replace h1 := h1.le hM1
  have b1 := h1.bound
  have hmb := (mkB_spec l1).2
  refine WP_seq ?_
  refine WP_region ?_
  refine S_v E rfl (R_assign E rfl) rfl ?_
  clear E a; intro a E
  refine WL_nil ?_
  refine T_n ?_
  refine WP_seq ?_
  refine WP_region ?_
  refine S_x (X_makeMap E S rfl ?_)
  clear E a S; rintro a w b_1 E S
  replace S : St w M1 (OwnE Value.bool b_1 ([] : List (Int × Bool)) :: _) := S
  refine S_v E rfl (R_assign E rfl) rfl ?_
  clear E a; intro a E
  refine WL_nil ?_
  refine T_n ?_
  refine WP_seq ?_
  refine WP_seq ?_
  refine WP_region ?_
  refine S_v E rfl (R_move E rfl) rfl ?_
  clear E a; intro a E
  refine S_v E rfl (R_lenV E rfl T22 h1.len) rfl ?_
  clear E a; intro a E
  refine S_v E rfl (R_move E rfl) rfl ?_
  clear E a; intro a E
  refine WL_nil ?_
  refine T_n ?_
  refine WP_block ?_
  replace S := S.reM (L' := (encE Value.bool (mkB (l1.take 0)))) (congrArg (encE Value.bool) (show ([] : List (Int × Bool)) = mkB (l1.take 0) by first | rfl | exact mkB_take (by assumption)))
  refine WP_loop (γ := Nat) (fun (k : Nat) a w => ∃ (M_2 : Hp), Hp.le M1 M_2 ∧ St w M_2 (OwnE Value.bool b_1 (mkB (l1.take k)) :: H) ∧ Env a 23 [] [(0, .bool true), (5, .map (some b_1)), (9, v1), (10, .int .i64 (((l1).length : Nat) : Int)), (11, .int .i64 ((k : Nat) : Int))] ∧ (k ≤ (l1).length)) (fun k => ((l1).length) - k) 0 ⟨M1, Hp.le.refl _, S, E.keep ⟨rfl, rfl, rfl, rfl, rfl, trivial⟩, by ((try clear S); (try clear E); first | assumption | omega | rfl | (simp; done) | (simp_all; done) | (simp [List.take_add_one, *]; done) | grind [List.take_add_one])⟩ ?_
  try clear E
  try clear S
  try clear a
  try clear w
  rintro k a w ⟨M_2, hM_2, S, E, hL0_0⟩
  replace h1 := h1.le hM_2
  refine WP_seq ?_
  refine WP_region ?_
  refine S_v E rfl (R_lss E rfl rfl) rfl ?_
  clear E a; intro a E
  refine WL_nil ?_
  refine T_n ?_
  refine WP_seq ?_
  refine WP_cond E rfl (fun hc_3 => ?_) (fun hc_3 => ?_)
  · replace hc_3 := of_decide_eq_true hc_3
    refine WP_skip ?_
    refine T_n ?_
    refine WP_seq ?_
    refine WP_block ?_
    refine WP_seq ?_
    refine WP_region ?_
    obtain ⟨x_4, hx_4⟩ : ∃ x, (l1)[k]? = some x := ⟨_, List.getElem?_eq_getElem (by first | omega | (simp; done) | (simp; omega) | (simp_all; omega))⟩
    obtain ⟨p_5, hp_5, qp_5⟩ := h1.at hx_4
    refine S_v E rfl (R_idx E rfl rfl T22 hp_5 rfl) rfl ?_
    clear E a; intro a E
    refine S_v E rfl (R_loadM E rfl Tryz.isAgg3 S.imm qp_5) rfl ?_
    clear E a; intro a E
    refine S_v E rfl (R_assign E rfl) rfl ?_
    clear E a; intro a E
    refine WL_nil ?_
    refine T_n ?_
    refine WP_region ?_
    refine S_v E rfl (R_move E rfl) rfl ?_
    clear E a; intro a E
    refine S_v E rfl (R_move E rfl) rfl ?_
    clear E a; intro a E
    refine S_x0 (X_updateE (vf := Value.bool) (u := true) E S MT106 rfl rfl rfl ?_)
    clear E a S; rintro a w E S
    refine WL_nil ?_
    refine B_n ?_
    refine T_n ?_
    refine WP_region ?_
    refine S_v E rfl (R_addx (m := ((k + 1 : Nat) : Int)) E rfl rfl (by omega) (by omega)) rfl ?_
    clear E a; intro a E
    refine S_v E rfl (R_move E rfl) rfl ?_
    clear E a; intro a E
    refine WL_nil ?_
    refine T_n ?_
    replace S := S.reM (L' := (encE Value.bool (mkB (l1.take (k + 1))))) (congrArg (encE Value.bool) (show putK (mkB (l1.take k)) x_4 true = mkB (l1.take (k + 1)) by first | rfl | exact mkB_take (by assumption)))
    exact ⟨k + 1, ⟨M_2, hM_2, S, E.keep ⟨rfl, rfl, rfl, rfl, rfl, trivial⟩, by ((try clear S); (try clear E); first | assumption | omega | rfl | (simp; done) | (simp_all; done) | (simp [List.take_add_one, *]; done) | grind [List.take_add_one])⟩, by omega⟩
  · replace hc_3 := of_decide_eq_false hc_3
    refine WP_exit ?_
    refine T_x ?_
    refine T_x ?_
    refine B_x ?_
    refine T_n ?_
    refine WP_seq ?_
    refine WP_seq ?_
    refine WP_region ?_
    refine S_v E rfl (R_move E rfl) rfl ?_
    clear E a; intro a E
    refine WL_nil ?_
    refine T_n ?_
    refine WP_condT E rfl rfl ?_
    refine WP_seq ?_
    refine WP_region ?_
    refine S_v E rfl (R_move E rfl) rfl ?_
    clear E a; intro a E
    have S0 := S; clear S
    obtain ⟨M_6, hM_6, hm_7, S⟩ := S0.freezeM
    clear S0
    replace h1 := h1.le hM_6
    refine S_x (X_sp (p := []) E S rfl rfl rfl (OS_NewSetFromMapKeys hm_7 (by first | assumption | omega | (rw [List.take_of_length_le (by omega)]; omega))) (Hp.le.refl _) ?_)
    clear E a S; rintro a _ w M_8 _ hM_8 ⟨p_9, b_10, m_11, l_12, rfl, rfl, hx_13, hx_14⟩ S E
    replace S : St w M_8 (blk p_9 (.cells #[.int .i32 0, .int .u32 0, .int .u32 0, .int .u32 0, .int .i32 0, .int .i32 0, .pointer (some ⟨b_10, 0, none⟩)] 144) :: blk b_10 (.cells #[.map (some m_11)] 145) :: OwnS m_11 l_12 :: H) := S
    replace h1 := h1.le hM_8
    replace hm_7 := hm_7.le hM_8
    refine S_v E rfl (R_assign E rfl) rfl ?_
    clear E a; intro a E
    refine WL_nil ?_
    refine T_n ?_
    refine WP_ret ?_
    refine T_r ?_
    replace S := S.front2
    replace S := S.front2
    replace S := S.front2
    exact F_ret1 E Tryz.results63 rfl ⟨_, rfl, M_8, _, (hM_2.trans (hM_6.trans hM_8)), ⟨_, _, _, _, rfl, rfl, (by assumption), (by (intro z; first | exact (by assumption : ∀ z, z ∈ _ ↔ z ∈ (mkB (l1.take k)).map Prod.fst) z |>.trans (by rw [List.take_of_length_le (by omega)]; exact (mkB_spec l1).1 z)))⟩, S⟩

set_option maxRecDepth 100000 in
set_option maxHeartbeats 4000000 in
theorem reg_keySet {M : Hp} {x0 : Bool} {v1 : Value} {l1 : List Int} (h1 : RdI M v1 l1) (hb : l1.length ≤ 1000000000) :
    Sp Tryz.prog (.func (.func 63) #[] #[]) M [.bool x0, v1] [] (fun r M' C' => ∃ x : RG, C' = [SetI KS x0 x] ∧ r = ifv KS x0 x ∧ x.2.2 = setI l1) := by
  cases x0
  · exact spConvC (O_keySet h1 hb) fun v M2 C ⟨b, m, l, h1, h2, h3, h4⟩ => ⟨[SetI KS false (0, .pointer (some ⟨b, 0, none⟩), setI l1)], ⟨_, rfl, h2, rfl⟩, fun w M H s => by subst h1; exact mkSetU (K := KS) h3 (fun z => (h4 z).trans mem_setI.symm) s⟩
  · exact spConvC (OS_keySet h1 hb) fun v M2 C ⟨p, b, m, l, h1, h2, h3, h4⟩ => ⟨[SetI KS true (p, .pointer (some ⟨b, 0, none⟩), setI l1)], ⟨_, rfl, h2, rfl⟩, fun w M H s => by subst h1; exact mkSetS (K := KS) h3 (fun z => (h4 z).trans mem_setI.symm) s⟩

end Go.Proofs.YtlmpgefhnmfhpaaGreat.wFnSetKinds
