/- Walks through the functions that laws.FnPicked reaches: what each computes; no conditions beyond what each theorem states. -/
import Derived.Test.YtahbobhbookehaaWFnPickedb
set_option linter.unusedVariables false
set_option linter.unusedSimpArgs false
namespace Go.Proofs.Ytahbobhbookehaa.wFnPicked
open Go Go.Sl
set_option maxRecDepth 100000 in
set_option maxHeartbeats 4000000 in
theorem laws_zzFits1 {M : Hp} {pk0 pn0 : Int} {w0 : Value} {pl0 : List Int} (hw0 : RdI M w0 pl0) (gn0 : -9223372036854775808 ≤ pn0 ∧ pn0 ≤ 9223372036854775807) :
    Pu Try.prog (.func (.func 43) #[] #[]) M [.agg #[.int .i64 pk0, .int .i64 pn0, w0]] (fun r M' => r = .bool (decide ((pl0).length ≤ 2147483647))) := by
  refine Pu_enter Try.func43 rfl Try.ntmps43 rfl Try.call43 ?_
  intro a w M1 H hM1 S E
  replace hw0 := hw0.le hM1
  have bw0 := hw0.bound
  refine WP_seq ?_
  refine WP_region ?_
  refine S_x (X_box (cs := #[.int .i64 pk0, .int .i64 pn0, w0]) E S rfl rfl rfl ?_)
  clear E a S; rintro a w b_1 E S
  obtain ⟨M_2, hM_2, hb_1, S⟩ := S.freezeB
  replace hw0 := hw0.le hM_2
  refine S_v E rfl (R_assign E rfl) rfl ?_
  clear E a; intro a E
  refine WL_nil ?_
  refine T_n ?_
  refine WP_seq ?_
  refine WP_seq ?_
  refine WP_region ?_
  refine S_v E rfl (R_fieldAddr E rfl (FA54_2 _)) rfl ?_
  clear E a; intro a E
  refine S_v E rfl (R_loadM E rfl Try.isAgg22 S.imm (cellM_boxo hb_1 rfl)) rfl ?_
  clear E a; intro a E
  refine S_v E rfl (R_lenV E rfl T22 hw0.len) rfl ?_
  clear E a; intro a E
  refine S_v E rfl (R_gtr E rfl rfl) rfl ?_
  clear E a; intro a E
  refine WL_nil ?_
  refine T_n ?_
  refine WP_cond E rfl (fun hc_3 => ?_) (fun hc_3 => ?_)
  · replace hc_3 := of_decide_eq_true hc_3
    refine WP_seq ?_
    refine WP_region ?_
    refine S_v E rfl (R_assign E rfl) rfl ?_
    clear E a; intro a E
    refine WL_nil ?_
    refine T_n ?_
    refine WP_ret ?_
    refine T_r ?_
    exact F_ret1 E Try.results43 rfl ⟨_, rfl, M_2, hM_2, (bF (by ((try clear S); (try clear E); first | assumption | omega | rfl | (simp; done) | (simp_all; done) | (simp [List.take_add_one, *]; done) | grind [List.take_add_one]))), S⟩
  · replace hc_3 := of_decide_eq_false hc_3
    refine WP_skip ?_
    refine T_n ?_
    refine WP_seq ?_
    refine WP_region ?_
    refine S_v E rfl (R_assign E rfl) rfl ?_
    clear E a; intro a E
    refine WL_nil ?_
    refine T_n ?_
    refine WP_ret ?_
    exact F_ret1 E Try.results43 rfl ⟨_, rfl, M_2, hM_2, (bT (by ((try clear S); (try clear E); first | assumption | omega | rfl | (simp; done) | (simp_all; done) | (simp [List.take_add_one, *]; done) | grind [List.take_add_one]))), S⟩

set_option maxRecDepth 100000 in
set_option maxHeartbeats 4000000 in
theorem impl_mapOf {M : Hp} {v0 : Value} {l0 : List (Int × Int)} (h0 : RdS 2 RP2 M v0 l0) :
    Pu Try.prog (.func (.func 131) #[] #[]) M [v0] (fun r M' => RdM M' r (encE (Value.int .i64) (mkE l0))) := by
  refine Pu_enter Try.func131 rfl Try.ntmps131 rfl Try.call131 ?_
  intro a w M1 H hM1 S E
  replace h0 := h0.le RP2_mono hM1
  have b0 := h0.bound
  refine WP_seq ?_
  refine WP_region ?_
  refine S_v E rfl (R_assign E rfl) rfl ?_
  clear E a; intro a E
  refine WL_nil ?_
  refine T_n ?_
  refine WP_seq ?_
  refine WP_region ?_
  refine S_x (X_makeMap E S rfl ?_)
  clear E a S; rintro a w b_1 E S
  replace S : St w M1 (OwnE (Value.int .i64) b_1 ([] : List (Int × Int)) :: _) := S
  refine S_v E rfl (R_assign E rfl) rfl ?_
  clear E a; intro a E
  refine WL_nil ?_
  refine T_n ?_
  refine WP_seq ?_
  refine WP_seq ?_
  refine WP_region ?_
  refine S_v E rfl (R_move E rfl) rfl ?_
  clear E a; intro a E
  refine S_v E rfl (R_lenV E rfl T33 h0.len) rfl ?_
  clear E a; intro a E
  refine S_v E rfl (R_move E rfl) rfl ?_
  clear E a; intro a E
  refine WL_nil ?_
  refine T_n ?_
  refine WP_block ?_
  replace S := S.reM (L' := (encE (Value.int .i64) (mkE (l0.take 0)))) (congrArg (encE (Value.int .i64)) (show ([] : List (Int × Int)) = mkE (l0.take 0) by first | rfl | (simp [mkE]; done) | (rw [tk_snoc (by assumption), mkE_app]; done)))
  refine WP_loop (γ := Nat) (fun (k : Nat) a w => ∃ (M_2 : Hp), Hp.le M1 M_2 ∧ St w M_2 (OwnE (Value.int .i64) b_1 (mkE (l0.take k)) :: H) ∧ Env a 20 [] [(3, .map (some b_1)), (7, v0), (8, .int .i64 (((l0).length : Nat) : Int)), (9, .int .i64 ((k : Nat) : Int))] ∧ (k ≤ (l0).length)) (fun k => ((l0).length) - k) 0 ⟨M1, Hp.le.refl _, S, E.keep ⟨rfl, rfl, rfl, rfl, trivial⟩, by ((try clear S); (try clear E); first | assumption | omega | rfl | (simp; done) | (simp_all; done) | (simp [List.take_add_one, *]; done) | grind [List.take_add_one])⟩ ?_
  try clear E
  try clear S
  try clear a
  try clear w
  rintro k a w ⟨M_2, hM_2, S, E, hL0_0⟩
  replace h0 := h0.le RP2_mono hM_2
  refine WP_seq ?_
  refine WP_region ?_
  refine S_v E rfl (R_lss E rfl rfl) rfl ?_
  clear E a; intro a E
  refine WL_nil ?_
  refine T_n ?_
  refine WP_seq ?_
  refine WP_cond E rfl (fun hc_3 => ?_) (fun hc_3 => ?_)
  · replace hc_3 := of_decide_eq_true hc_3
    refine WP_skip ?_
    refine T_n ?_
    refine WP_seq ?_
    refine WP_block ?_
    refine WP_seq ?_
    refine WP_region ?_
    obtain ⟨x_4, hx_4⟩ : ∃ x, (l0)[k]? = some x := ⟨_, List.getElem?_eq_getElem (by first | omega | (simp; done) | (simp; omega) | (simp_all; omega))⟩
    obtain ⟨p_5, hp_5, qp_5⟩ := RdP2.at h0 hx_4
    refine S_v E rfl (R_idx E rfl rfl T33 hp_5 rfl) rfl ?_
    clear E a; intro a E
    refine S_v E rfl (R_loadA (cs := [.int .i64 x_4.1, .int .i64 x_4.2]) E rfl (Try.isAgg59 _) (Try.sizeOf59 _) S.imm qp_5) rfl ?_
    clear E a; intro a E
    refine S_x (X_alloc (cs := #[.int .i64 0, .int .i64 0]) E S rfl Try.zeroValue59 rfl ?_)
    clear E a S; rintro a w b_6 E S
    refine S_x0 (X_storeG (us := [.int .i64 x_4.1, .int .i64 x_4.2]) E S rfl rfl (Try.sizeOf59 _) rfl (by intro u hu; simp only [List.mem_cons, List.not_mem_nil, or_false] at hu; rcases hu with rfl | rfl <;> first | exact rfl | exact rfl) ?_)
    clear E a S; rintro a w E S
    replace S : St w M_2 (blk b_6 (.cells #[.int .i64 x_4.1, .int .i64 x_4.2] 59) :: _) := S
    have S0 := S; clear S
    obtain ⟨M_7, hM_7, hb_8, S⟩ := S0.freezeB
    clear S0
    replace h0 := h0.le RP2_mono hM_7
    refine WL_nil ?_
    refine T_n ?_
    refine WP_region ?_
    refine S_v E rfl (R_move E rfl) rfl ?_
    clear E a; intro a E
    refine S_v E rfl (R_fieldAddr E rfl (FA59_0 _)) rfl ?_
    clear E a; intro a E
    refine S_v E rfl (R_loadM E rfl Try.isAgg3 S.imm (cellM_boxo hb_8 rfl)) rfl ?_
    clear E a; intro a E
    refine S_v E rfl (R_fieldAddr E rfl (FA59_1 _)) rfl ?_
    clear E a; intro a E
    refine S_v E rfl (R_loadM E rfl Try.isAgg3 S.imm (cellM_boxo hb_8 rfl)) rfl ?_
    clear E a; intro a E
    refine S_x0 (X_updateE (vf := (Value.int .i64)) (u := x_4.2) E S MT103 rfl rfl rfl ?_)
    clear E a S; rintro a w E S
    refine WL_nil ?_
    refine B_n ?_
    refine T_n ?_
    refine WP_region ?_
    refine S_v E rfl (R_addx (m := ((k + 1 : Nat) : Int)) E rfl rfl (by omega) (by omega)) rfl ?_
    clear E a; intro a E
    refine S_v E rfl (R_move E rfl) rfl ?_
    clear E a; intro a E
    refine WL_nil ?_
    refine T_n ?_
    replace S := S.reM (L' := (encE (Value.int .i64) (mkE (l0.take (k + 1))))) (congrArg (encE (Value.int .i64)) (show putK (mkE (l0.take k)) x_4.1 x_4.2 = mkE (l0.take (k + 1)) by first | rfl | (simp [mkE]; done) | (rw [tk_snoc (by assumption), mkE_app]; done)))
    exact ⟨k + 1, ⟨M_7, (hM_2.trans hM_7), S, E.keep ⟨rfl, rfl, rfl, rfl, trivial⟩, by ((try clear S); (try clear E); first | assumption | omega | rfl | (simp; done) | (simp_all; done) | (simp [List.take_add_one, *]; done) | grind [List.take_add_one])⟩, by omega⟩
  · replace hc_3 := of_decide_eq_false hc_3
    refine WP_exit ?_
    refine T_x ?_
    refine T_x ?_
    refine B_x ?_
    refine T_n ?_
    refine WP_seq ?_
    refine WP_region ?_
    refine S_v E rfl (R_move E rfl) rfl ?_
    clear E a; intro a E
    refine S_v E rfl (R_assign E rfl) rfl ?_
    clear E a; intro a E
    refine WL_nil ?_
    refine T_n ?_
    refine WP_ret ?_
    have S0 := S; clear S
    obtain ⟨M_9, hM_9, hm_10, S⟩ := S0.freezeM
    clear S0
    replace h0 := h0.le RP2_mono hM_9
    exact F_ret1 E Try.results131 rfl ⟨_, rfl, M_9, (hM_2.trans hM_9), (by rw [show (mkE l0) = (mkE (l0.take k)) from by (rw [List.take_of_length_le (by omega)])]; exact hm_10), S⟩

set_option maxRecDepth 100000 in
set_option maxHeartbeats 4000000 in
theorem lo_PickByKeys {M : Hp} {m0 : Value} {q0 : List (Int × Int)} (hm0 : RdM M m0 (encE (Value.int .i64) q0)) {v1 : Value} {l1 : List Int} (h1 : RdI M v1 l1) :
    Pu Try.prog (.func (.func 136) #[] #[]) M [m0, v1] (fun r M' => ∃ q_, RdM M' r (encE (Value.int .i64) q_) ∧ lkE q_ = lkE ((q0).filter (fun e : Int × Int => decide (e.1 ∈ l1)))) := by
  refine Pu_enter Try.func136 rfl Try.ntmps136 rfl Try.call136 ?_
  intro a w M1 H hM1 S E
  replace hm0 := hm0.le hM1
  replace h1 := h1.le hM1
  have hnq : (q0.map Prod.fst).Nodup := keys_encE (Value.int .i64) q0 ▸ hm0.nodup
  have b1 := h1.bound
  refine WP_seq ?_
  refine WP_region ?_
  refine S_v E rfl (R_assign E rfl) rfl ?_
  clear E a; intro a E
  refine WL_nil ?_
  refine T_n ?_
  refine WP_seq ?_
  refine WP_region ?_
  refine S_x (X_makeMap E S rfl ?_)
  clear E a S; rintro a w b_1 E S
  replace S : St w M1 (OwnE (Value.int .i64) b_1 ([] : List (Int × Int)) :: _) := S
  refine S_v E rfl (R_assign E rfl) rfl ?_
  clear E a; intro a E
  refine WL_nil ?_
  refine T_n ?_
  refine WP_seq ?_
  refine WP_seq ?_
  refine WP_region ?_
  refine S_v E rfl (R_move E rfl) rfl ?_
  clear E a; intro a E
  refine S_v E rfl (R_lenV E rfl T22 h1.len) rfl ?_
  clear E a; intro a E
  refine S_v E rfl (R_move E rfl) rfl ?_
  clear E a; intro a E
  refine WL_nil ?_
  refine T_n ?_
  refine WP_block ?_
  replace S := S.reM (L' := (encE (Value.int .i64) (pkK q0 (l1.take 0)))) (congrArg (encE (Value.int .i64)) (show ([] : List (Int × Int)) = pkK q0 (l1.take 0) by first | rfl | (simp [pkK]; done) | exact pk_yes (by assumption) (by assumption) | exact pk_no (by assumption) (by assumption)))
  refine WP_loop (γ := Nat) (fun (k : Nat) a w => ∃ (M_2 : Hp), Hp.le M1 M_2 ∧ St w M_2 (OwnE (Value.int .i64) b_1 (pkK q0 (l1.take k)) :: H) ∧ Env a 33 [] [(0, m0), (1, v1), (5, .map (some b_1)), (11, .int .i64 (((l1).length : Nat) : Int)), (12, .int .i64 ((k : Nat) : Int))] ∧ (k ≤ (l1).length)) (fun k => ((l1).length) - k) 0 ⟨M1, Hp.le.refl _, S, E.keep ⟨rfl, rfl, rfl, rfl, rfl, trivial⟩, by ((try clear S); (try clear E); first | assumption | omega | rfl | (simp; done) | (simp_all; done) | (simp [List.take_add_one, *]; done) | grind [List.take_add_one])⟩ ?_
  try clear E
  try clear S
  try clear a
  try clear w
  rintro k a w ⟨M_2, hM_2, S, E, hL0_0⟩
  replace hm0 := hm0.le hM_2
  replace h1 := h1.le hM_2
  refine WP_seq ?_
  refine WP_region ?_
  refine S_v E rfl (R_lss E rfl rfl) rfl ?_
  clear E a; intro a E
  refine WL_nil ?_
  refine T_n ?_
  refine WP_seq ?_
  refine WP_cond E rfl (fun hc_3 => ?_) (fun hc_3 => ?_)
  · replace hc_3 := of_decide_eq_true hc_3
    refine WP_skip ?_
    refine T_n ?_
    refine WP_seq ?_
    refine WP_block ?_
    refine WP_seq ?_
    refine WP_region ?_
    refine S_v E rfl (R_move E rfl) rfl ?_
    clear E a; intro a E
    refine S_v E rfl (R_assign E rfl) rfl ?_
    clear E a; intro a E
    refine WL_nil ?_
    refine T_n ?_
    refine WP_seq ?_
    refine WP_region ?_
    refine S_v E rfl (R_move E rfl) rfl ?_
    clear E a; intro a E
    refine S_v E rfl (R_move E rfl) rfl ?_
    clear E a; intro a E
    refine S_v E rfl (R_move E rfl) rfl ?_
    clear E a; intro a E
    obtain ⟨x_4, hx_4⟩ : ∃ x, (l1)[k]? = some x := ⟨_, List.getElem?_eq_getElem (by first | omega | (simp; done) | (simp; omega) | (simp_all; omega))⟩
    obtain ⟨p_5, hp_5, qp_5⟩ := h1.at hx_4
    refine S_v E rfl (R_idx E rfl rfl T22 hp_5 rfl) rfl ?_
    clear E a; intro a E
    refine S_v E rfl (R_loadM E rfl Try.isAgg3 S.imm qp_5) rfl ?_
    clear E a; intro a E
    refine S_v E rfl (R_lookupFE (vf := (Value.int .i64)) (zb := (0 : Int)) S.imm hm0 E MT103 rfl rfl) rfl ?_
    clear E a; intro a E
    refine S_v E rfl (R_move E rfl) rfl ?_
    clear E a; intro a E
    refine S_v E rfl (R_extract E rfl rfl) rfl ?_
    clear E a; intro a E
    refine S_v E rfl (R_extract E rfl rfl) rfl ?_
    clear E a; intro a E
    refine S_v E rfl (R_assign E rfl) rfl ?_
    clear E a; intro a E
    refine S_v E rfl (R_assign E rfl) rfl ?_
    clear E a; intro a E
    refine WL_nil ?_
    refine T_n ?_
    refine WP_seq ?_
    refine WP_region ?_
    refine S_v E rfl (R_move E rfl) rfl ?_
    clear E a; intro a E
    refine WL_nil ?_
    refine T_n ?_
    refine WP_cond E rfl (fun hc_6 => ?_) (fun hc_6 => ?_)
    · refine WP_region ?_
      refine S_v E rfl (R_move E rfl) rfl ?_
      clear E a; intro a E
      refine S_v E rfl (R_move E rfl) rfl ?_
      clear E a; intro a E
      refine S_v E rfl (R_move E rfl) rfl ?_
      clear E a; intro a E
      obtain ⟨p_7, hp_7, qp_7⟩ := h1.at hx_4
      refine S_v E rfl (R_idx E rfl rfl T22 hp_7 rfl) rfl ?_
      clear E a; intro a E
      refine S_v E rfl (R_loadM E rfl Try.isAgg3 S.imm qp_7) rfl ?_
      clear E a; intro a E
      refine S_v E rfl (R_move E rfl) rfl ?_
      clear E a; intro a E
      refine S_x0 (X_updateE (vf := (Value.int .i64)) (u := getK (0 : Int) q0 x_4) E S MT103 rfl rfl rfl ?_)
      clear E a S; rintro a w E S
      refine WL_nil ?_
      refine B_n ?_
      refine T_n ?_
      refine WP_region ?_
      refine S_v E rfl (R_addx (m := ((k + 1 : Nat) : Int)) E rfl rfl (by omega) (by omega)) rfl ?_
      clear E a; intro a E
      refine S_v E rfl (R_move E rfl) rfl ?_
      clear E a; intro a E
      refine WL_nil ?_
      refine T_n ?_
      replace S := S.reM (L' := (encE (Value.int .i64) (pkK q0 (l1.take (k + 1))))) (congrArg (encE (Value.int .i64)) (show putK (pkK q0 (l1.take k)) x_4 (getK (0 : Int) q0 x_4) = pkK q0 (l1.take (k + 1)) by first | rfl | (simp [pkK]; done) | exact pk_yes (by assumption) (by assumption) | exact pk_no (by assumption) (by assumption)))
      exact ⟨k + 1, ⟨M_2, hM_2, S, E.keep ⟨rfl, rfl, rfl, rfl, rfl, trivial⟩, by ((try clear S); (try clear E); first | assumption | omega | rfl | (simp; done) | (simp_all; done) | (simp [List.take_add_one, *]; done) | grind [List.take_add_one])⟩, by omega⟩
    · refine WP_skip ?_
      refine B_n ?_
      refine T_n ?_
      refine WP_region ?_
      refine S_v E rfl (R_addx (m := ((k + 1 : Nat) : Int)) E rfl rfl (by omega) (by omega)) rfl ?_
      clear E a; intro a E
      refine S_v E rfl (R_move E rfl) rfl ?_
      clear E a; intro a E
      refine WL_nil ?_
      refine T_n ?_
      replace S := S.reM (L' := (encE (Value.int .i64) (pkK q0 (l1.take (k + 1))))) (congrArg (encE (Value.int .i64)) (show pkK q0 (l1.take k) = pkK q0 (l1.take (k + 1)) by first | rfl | (simp [pkK]; done) | exact pk_yes (by assumption) (by assumption) | exact pk_no (by assumption) (by assumption)))
      exact ⟨k + 1, ⟨M_2, hM_2, S, E.keep ⟨rfl, rfl, rfl, rfl, rfl, trivial⟩, by ((try clear S); (try clear E); first | assumption | omega | rfl | (simp; done) | (simp_all; done) | (simp [List.take_add_one, *]; done) | grind [List.take_add_one])⟩, by omega⟩
  · replace hc_3 := of_decide_eq_false hc_3
    refine WP_exit ?_
    refine T_x ?_
    refine T_x ?_
    refine B_x ?_
    refine T_n ?_
    refine WP_seq ?_
    refine WP_region ?_
    refine S_v E rfl (R_move E rfl) rfl ?_
    clear E a; intro a E
    refine S_v E rfl (R_assign E rfl) rfl ?_
    clear E a; intro a E
    refine WL_nil ?_
    refine T_n ?_
    refine WP_ret ?_
    have S0 := S; clear S
    obtain ⟨M_8, hM_8, hm_9, S⟩ := S0.freezeM
    clear S0
    replace hm0 := hm0.le hM_8
    replace h1 := h1.le hM_8
    exact F_ret1 E Try.results136 rfl ⟨_, rfl, M_8, (hM_2.trans hM_8), ⟨_, hm_9, by (rw [List.take_of_length_le (by omega)]; exact (pk_spec hnq l1).2)⟩, S⟩

set_option maxRecDepth 100000 in
set_option maxHeartbeats 4000000 in
def Try.gsv6_ren : Go.Shelf.Ren := ⟨fun | 6 => 162 | 10 => 174 | 11 => 175 | 12 => 176 | 13 => 177 | 14 => 178 | 24 => 191 | 25 => 192 | 26 => 193 | 27 => 194 | 28 => 195 | 29 => 196 | 30 => 197 | 31 => 198 | 32 => 199 | 33 => 200 | 34 => 202 | 35 => 203 | 36 => 204 | 37 => 205 | 38 => 206 | 39 => 216 | n => n, fun | 20 => 20 | 26 => 121 | 35 => 162 | 0 => 0 | 37 => 164 | 3 => 3 | 41 => 168 | 44 => 171 | 49 => 177 | 51 => 172 | 4 => 4 | 54 => 181 | 53 => 180 | 58 => 153 | 5 => 5 | 9 => 9 | 60 => 187 | 64 => 191 | 66 => 200 | 67 => 152 | 17 => 17 | 32 => 159 | 33 => 160 | 82 => 220 | 12 => 12 | 75 => 213 | 76 => 214 | 77 => 215 | 78 => 216 | 79 => 217 | 80 => 218 | n => n, fun | n => n⟩
set_option maxRecDepth 100000 in
set_option maxHeartbeats 4000000 in
theorem Try.gsv6 : Go.Proofs.LaysGg.n6 Try.prog Try.gsv6_ren := {
  mixed := by kernel_rfl,
  f6 := Try.func162.trans (congrArg some (by kernel_rfl)),
  f10 := Try.func174.trans (congrArg some (by kernel_rfl)),
  f11 := Try.func175.trans (congrArg some (by kernel_rfl)),
  f12 := Try.func176.trans (congrArg some (by kernel_rfl)),
  f13 := Try.func177.trans (congrArg some (by kernel_rfl)),
  f14 := Try.func178.trans (congrArg some (by kernel_rfl)),
  f24 := Try.func191.trans (congrArg some (by kernel_rfl)),
  f25 := Try.func192.trans (congrArg some (by kernel_rfl)),
  f26 := Try.func193.trans (congrArg some (by kernel_rfl)),
  f27 := Try.func194.trans (congrArg some (by kernel_rfl)),
  f28 := Try.func195.trans (congrArg some (by kernel_rfl)),
  f29 := Try.func196.trans (congrArg some (by kernel_rfl)),
  f30 := Try.func197.trans (congrArg some (by kernel_rfl)),
  f31 := Try.func198.trans (congrArg some (by kernel_rfl)),
  f32 := Try.func199.trans (congrArg some (by kernel_rfl)),
  f33 := Try.func200.trans (congrArg some (by kernel_rfl)),
  f34 := Try.func202.trans (congrArg some (by kernel_rfl)),
  f35 := Try.func203.trans (congrArg some (by kernel_rfl)),
  f36 := Try.func204.trans (congrArg some (by kernel_rfl)),
  f37 := Try.func205.trans (congrArg some (by kernel_rfl)),
  f38 := Try.func206.trans (congrArg some (by kernel_rfl)),
  f39 := Try.func216.trans (congrArg some (by kernel_rfl)),
  t0 := Try.underlying0,
  a0 := Try.isAgg0,
  z0 := Try.sizeOf0,
  v0 := Try.zeroValue0,
  i0 := by kernel_rfl,
  t3 := Try.underlying3,
  a3 := Try.isAgg3,
  z3 := Try.sizeOf3,
  v3 := Try.zeroValue3,
  i3 := by kernel_rfl,
  t4 := Try.underlying4,
  a4 := Try.isAgg4,
  z4 := Try.sizeOf4,
  v4 := Try.zeroValue4,
  i4 := by kernel_rfl,
  t5 := Try.underlying5,
  a5 := Try.isAgg5,
  z5 := Try.sizeOf5,
  v5 := Try.zeroValue5,
  i5 := by kernel_rfl,
  t9 := Try.underlying9,
  a9 := Try.isAgg9,
  z9 := Try.sizeOf9,
  v9 := Try.zeroValue9,
  i9 := by kernel_rfl,
  t12 := Try.underlying12,
  a12 := Try.isAgg12,
  z12 := Try.sizeOf12,
  v12 := Try.zeroValue12,
  i12 := by kernel_rfl,
  t17 := Try.underlying17,
  a17 := Try.isAgg17,
  z17 := Try.sizeOf17,
  v17 := Try.zeroValue17,
  i17 := by kernel_rfl,
  t20 := Try.underlying20,
  a20 := Try.isAgg20,
  z20 := Try.sizeOf20,
  v20 := Try.zeroValue20,
  i20 := by kernel_rfl,
  t26 := Try.underlying121,
  a26 := Try.isAgg121,
  z26 := Try.sizeOf121,
  v26 := Try.zeroValue121,
  i26 := by kernel_rfl,
  t32 := Try.underlying159,
  a32 := Try.isAgg159,
  z32 := Try.sizeOf159,
  v32 := Try.zeroValue159,
  i32 := by kernel_rfl,
  t33 := Try.underlying160,
  a33 := Try.isAgg160,
  z33 := Try.sizeOf160,
  v33 := Try.zeroValue160,
  i33 := by kernel_rfl,
  t35 := Try.underlying162,
  a35 := Try.isAgg162,
  z35 := Try.sizeOf162,
  v35 := Try.zeroValue162,
  i35 := by kernel_rfl,
  t37 := Try.underlying164,
  a37 := Try.isAgg164,
  z37 := Try.sizeOf164,
  v37 := Try.zeroValue164,
  i37 := by kernel_rfl,
  t41 := Try.underlying168,
  a41 := Try.isAgg168,
  z41 := Try.sizeOf168,
  v41 := Try.zeroValue168,
  i41 := by kernel_rfl,
  t44 := Try.underlying171,
  a44 := Try.isAgg171,
  z44 := Try.sizeOf171,
  v44 := Try.zeroValue171,
  i44 := by kernel_rfl,
  t49 := Try.underlying177,
  a49 := Try.isAgg177,
  z49 := Try.sizeOf177,
  v49 := Try.zeroValue177,
  i49 := by kernel_rfl,
  t51 := Try.underlying172,
  a51 := Try.isAgg172,
  z51 := Try.sizeOf172,
  v51 := Try.zeroValue172,
  i51 := by kernel_rfl,
  t53 := Try.underlying180,
  a53 := Try.isAgg180,
  z53 := Try.sizeOf180,
  v53 := Try.zeroValue180,
  i53 := by kernel_rfl,
  t54 := Try.underlying181,
  a54 := Try.isAgg181,
  z54 := Try.sizeOf181,
  v54 := Try.zeroValue181,
  i54 := by kernel_rfl,
  t58 := Try.underlying153,
  a58 := Try.isAgg153,
  z58 := Try.sizeOf153,
  v58 := Try.zeroValue153,
  i58 := by kernel_rfl,
  t60 := Try.underlying187,
  a60 := Try.isAgg187,
  z60 := Try.sizeOf187,
  v60 := Try.zeroValue187,
  i60 := by kernel_rfl,
  t64 := Try.underlying191,
  a64 := Try.isAgg191,
  z64 := Try.sizeOf191,
  v64 := Try.zeroValue191,
  i64 := by kernel_rfl,
  t66 := Try.underlying200,
  a66 := Try.isAgg200,
  z66 := Try.sizeOf200,
  v66 := Try.zeroValue200,
  i66 := by kernel_rfl,
  t67 := Try.underlying152,
  a67 := Try.isAgg152,
  z67 := Try.sizeOf152,
  v67 := Try.zeroValue152,
  i67 := by kernel_rfl,
  t75 := Try.underlying213,
  a75 := Try.isAgg213,
  z75 := Try.sizeOf213,
  v75 := Try.zeroValue213,
  i75 := by kernel_rfl,
  t76 := Try.underlying214,
  a76 := Try.isAgg214,
  z76 := Try.sizeOf214,
  v76 := Try.zeroValue214,
  i76 := by kernel_rfl,
  t77 := Try.underlying215,
  a77 := Try.isAgg215,
  z77 := Try.sizeOf215,
  v77 := Try.zeroValue215,
  i77 := by kernel_rfl,
  t78 := Try.underlying216,
  a78 := Try.isAgg216,
  z78 := Try.sizeOf216,
  v78 := Try.zeroValue216,
  i78 := by kernel_rfl,
  t79 := Try.underlying217,
  a79 := Try.isAgg217,
  z79 := Try.sizeOf217,
  v79 := Try.zeroValue217,
  i79 := by kernel_rfl,
  t80 := Try.underlying218,
  a80 := Try.isAgg218,
  z80 := Try.sizeOf218,
  v80 := Try.zeroValue218,
  i80 := by kernel_rfl,
  t82 := Try.underlying220,
  a82 := Try.isAgg220,
  z82 := Try.sizeOf220,
  v82 := Try.zeroValue220,
  i82 := by kernel_rfl }

set_option maxRecDepth 100000 in
set_option maxHeartbeats 4000000 in
section
open Go Go.Proofs Go.Shelf Go.RowKit Go.Lib Go.Sort
noncomputable def sort_pairsT : TypeInfo := (Try.prog.info? 33).get (by kernel_rfl)
noncomputable def sort_pairsE : TypeInfo := (Try.prog.info? 59).get (by kernel_rfl)
set_option maxHeartbeats 2000000 in
theorem sort_pairs_less (Bs blk off c size : Nat) (W : World) (G : Nat → Int) (hs : W.cell? ⟨Bs, 0, none⟩ = some (.slice (some ⟨blk, off, none⟩) size c))
    (hc : ∀ t, t < size → W.cell? ⟨blk, off + t * 2, none⟩ = some (.int .i64 (G t))) (i j : Nat) (hi : i < size) (hj : j < size) (_hsz : size < 4611686018427387904) :
    Calls Try.prog 163 #[.int .i64 i, .int .i64 j, .pointer (some ⟨Bs, 0, none⟩)] W fun e w' => e = .returned (.bool (decide (G i < G j))) ∧ ∃ q, w' = W.drewN q := by
  have ci := hc i hi
  have cj := hc j hj
  go_enter Try.func163, Try.ntmps163
  go_wp2
  go_quiet (fail)
  go_wp2
  go_ret
  exact ⟨rfl, nq, rfl⟩
theorem sort_pairs_sw2 (n : Nat) (h : 2 ≤ n) : Lib.swapperK n sort_pairsE 25 = 9 := by
  have c : (n == 0) = false := by simp; omega
  have d : (n == 1) = false := by simp; omega
  have e : sort_pairsE.hasPointers = false := by kernel_rfl
  have b : sort_pairsE.bytes = 16 := by kernel_rfl
  simp [Lib.swapperK, c, d, e, b]
theorem sort_pairs_sw1 : Lib.swapperK 1 sort_pairsE 25 = 2 := rfl
theorem sort_pairs_sw0 : Lib.swapperK 0 sort_pairsE 25 = 1 := rfl
theorem sort_pairs {Bs : Nat} {M : Hp} {v : Value} {l : List (Int × Int)} {xs : List Value} (hr : RowsR RP2 2 M l xs) (hn : (l.map Prod.fst).Nodup) (hb : l.length ≤ 1000000000000) :
    Sp Try.prog (.func (.func 162) #[] #[]) M [.iface 33 v, .func (.func 163) #[] #[.pointer (some ⟨Bs, 0, none⟩)]] [OwnC 59 2 v l.length xs, Go.Sl.blk Bs (.cells #[v] 33)]
      (fun r M' C' => ∃ xs', RowsR RP2 2 M' (srtK Prod.fst l) xs' ∧ C' = [OwnC 59 2 v (srtK Prod.fst l).length xs', Go.Sl.blk Bs (.cells #[v] 33)]) :=
  sortK_sp Try.call162 (fun blk off c size W G a b i j c1 c2 c3 => sort_pairs_less Bs blk off c size W G a b i j c1 c2 c3)
    (fun blk c d w h2 hsz hless hH hblk => Any.sort_Slice_cells_sorted Try.gsv6 33 59 sort_pairsT sort_pairsE (by kernel_rfl) (by kernel_rfl) (by kernel_rfl) (by kernel_rfl) 25 (fun _ => by kernel_rfl) encK 2 (fun _ => rfl) (by kernel_rfl) (fun _ => by kernel_rfl)
      encK_one ltK swo_ltK 163 _ (enters_of Try.func163 (by kernel_rfl) rfl) blk 0 c d h2 hsz 190 (by rw [sort_pairs_sw2 _ h2]; kernel_rfl) false
      (fun args W => run_callFunc_extern Try.func190 (by kernel_rfl) (by kernel_rfl) (by kernel_rfl) (e := Extern.ReflectliteSwapper.swap false) (by kernel_rfl) args W) w hless hH hblk)
    (fun p n c w h1 => by
      rcases (show n = 0 ∨ n = 1 by omega) with rfl | rfl
      · exact Any.sort_Slice_tiny Try.gsv6 33 59 sort_pairsT sort_pairsE (by kernel_rfl) (by kernel_rfl) (by kernel_rfl) (by kernel_rfl) 25 (fun _ => by kernel_rfl) p 0 c h1 182 (by rw [sort_pairs_sw0]; kernel_rfl) _ _ _ w
      · exact Any.sort_Slice_tiny Try.gsv6 33 59 sort_pairsT sort_pairsE (by kernel_rfl) (by kernel_rfl) (by kernel_rfl) (by kernel_rfl) 25 (fun _ => by kernel_rfl) p 1 c h1 183 (by rw [sort_pairs_sw1]; kernel_rfl) _ _ _ w)
    (fun M cs x h => RP2_K h) RP2_mono hr hn hb
end

set_option maxRecDepth 100000 in
set_option maxHeartbeats 4000000 in
theorem impl_pairs {M : Hp} {m0 : Value} {q0 : List (Int × Int)} (hm0 : RdM M m0 (encE (Value.int .i64) q0)) (hb : q0.length ≤ 1000000000000) :
    Pu Try.prog (.func (.func 99) #[] #[]) M [m0] (fun r M' => RdS 2 RP2 M' r (srtK Prod.fst q0)) := by
  refine Pu_enter Try.func99 rfl Try.ntmps99 rfl Try.call99 ?_
  intro a w M1 H hM1 S E
  replace hm0 := hm0.le hM1
  have hnq : (q0.map Prod.fst).Nodup := keys_encE (Value.int .i64) q0 ▸ hm0.nodup
  refine WP_seq ?_
  refine WP_region ?_
  refine S_v E rfl (R_assign E rfl) rfl ?_
  clear E a; intro a E
  refine WL_nil ?_
  refine T_n ?_
  refine WP_seq ?_
  refine WP_region ?_
  refine S_x (X_alloc (cs := #[.slice none 0 0]) E S rfl Try.zeroValue33 rfl ?_)
  clear E a S; rintro a w b_1 E S
  refine WL_nil ?_
  refine T_n ?_
  refine WP_seq ?_
  refine WP_seq ?_
  refine WP_region ?_
  refine S_v E rfl (R_move E rfl) rfl ?_
  clear E a; intro a E
  refine S_x (X_range E S rfl MT103 hm0 rfl ?_)
  clear E a S; rintro a w i_2 es_3 ck_4 E hf_5 S
  replace S : St w M1 (ItO m0 es_3 ck_4 i_2 (encE (Value.int .i64) ([] : List (Int × Int))) :: _) := S
  refine WL_nil ?_
  refine T_n ?_
  refine WP_block ?_
  replace S : St w M1 (OwnC 59 2 (.slice none 0 0) ([] : List (Int × Int)).length [] :: _) := S.ownNil
  have hr_7 : RowsR RP2 2 M1 ([] : List (Int × Int)) [] := RowsR.nil
  replace S := S.front1
  replace S := S.front1
  have hre : ([] : List (Int × Int)) = [] := by first | rfl | (simp; done)
  replace S := S.reR hre
  replace hr_7 := hr_7.eq hre
  clear hre
  replace S := S.front1
  replace S := S.reIt (p' := (encE (Value.int .i64) [])) (congrArg (encE (Value.int .i64)) (show ([] : List (Int × Int)) = [] by first | rfl | (simp; done)))
  refine WP_loop (γ := List (Int × Int)) (fun (p : List (Int × Int)) a w => ∃ (M_8 : Hp) (u3 : Value) (xs3 : List Value), Hp.le M1 M_8 ∧ St w M_8 (ItO m0 es_3 ck_4 i_2 (encE (Value.int .i64) p) :: OwnC 59 2 u3 p.length xs3 :: blk b_1 (.cells #[u3] 33) :: H) ∧ Env a 24 [] [(3, .pointer (some ⟨b_1, 0, none⟩)), (7, .pointer (some ⟨i_2, 0, none⟩))] ∧ ((p.map Prod.fst).Nodup) ∧ (∀ z ∈ p, z ∈ q0) ∧ (p.length ≤ q0.length) ∧ RowsR RP2 2 M_8 p xs3) (fun p => q0.length - p.length) [] ⟨M1, _, _, Hp.le.refl _, S, E.keep ⟨rfl, rfl, trivial⟩, (by simp), (by simp), (by simp), hr_7⟩ ?_
  try clear E
  try clear S
  try clear a
  try clear w
  rintro p a w ⟨M_8, u3, xs3, hM_8, S, E, hL0_0, hL0_1, hL0_2, hr3⟩
  replace hm0 := hm0.le hM_8
  replace hf_5 := hf_5.le hM_8
  refine WP_seq ?_
  refine WP_region ?_
  refine S_x (X_nextE (vf := (Value.int .i64)) E S rfl hf_5 rfl (by assumption) (by assumption) ?_ ?_)
  · clear E a S; rintro a E hpm_9 S
    refine S_v E rfl (R_extract E rfl rfl) rfl ?_
    clear E a; intro a E
    refine WL_nil ?_
    refine T_n ?_
    refine WP_seq ?_
    refine WP_condF E rfl rfl ?_
    refine WP_exit ?_
    refine T_x ?_
    refine T_x ?_
    refine B_x ?_
    refine T_n ?_
    refine WP_seq ?_
    refine WP_region ?_
    refine S_v E rfl (R_load E rfl (Try.isAgg33 _) (cell_blk (S.mem (.tail _ (.tail _ (.head _)))))) rfl ?_
    clear E a; intro a E
    refine S_v E rfl (R_iface E rfl T33.und) rfl ?_
    clear E a; intro a E
    refine S_v E rfl (R_makeFunc E rfl rfl) rfl ?_
    clear E a; intro a E
    replace S := S.front2
    replace S := S.front2
    refine S_x (X_sp (p := [OwnC 59 2 u3 p.length xs3, blk b_1 (.cells #[u3] 33)]) E S rfl rfl rfl (sort_pairs hr3 (by first | assumption | exact keys_perm (by assumption) hnq) (by (first | (rw [srtK_len]; omega) | omega | (simp; omega)))) (Hp.le.refl _) ?_)
    clear E a S; rintro a _ w M_10 _ hM_10 ⟨xs_11, hr_12, rfl⟩ S E
    replace S : St w M_10 (OwnC 59 2 u3 (srtK Prod.fst p).length xs_11 :: blk b_1 (.cells #[u3] 33) :: _) := S
    replace hm0 := hm0.le hM_10
    replace hf_5 := hf_5.le hM_10
    refine WL_nil ?_
    refine T_n ?_
    refine WP_seq ?_
    refine WP_region ?_
    refine S_v E rfl (R_load E rfl (Try.isAgg33 _) (cell_blk (S.mem (.tail _ (.head _))))) rfl ?_
    clear E a; intro a E
    refine S_v E rfl (R_assign E rfl) rfl ?_
    clear E a; intro a E
    refine WL_nil ?_
    refine T_n ?_
    refine WP_ret ?_
    have S0 := S; clear S
    obtain ⟨M_13, hM_13, hz_14, S⟩ := S0.freezeR hr_12 RP2_mono (by (first | (rw [srtK_len]; omega) | omega | (simp; omega)))
    clear S0
    replace hm0 := hm0.le hM_13
    replace hf_5 := hf_5.le hM_13
    exact F_ret1 E Try.results99 rfl ⟨_, rfl, M_13, (hM_8.trans (hM_10.trans hM_13)), (by rw [show (srtK Prod.fst q0) = (srtK Prod.fst p) from by (first | exact srtK_perm_eq hnq (by assumption) | exact (srtK_perm_eq hnq (by assumption)).symm)]; exact hz_14), S.drop.drop⟩
  · clear E a S w; rintro a w k_15 u_17 E hk_16 hk_16n hk_16l S
    refine S_v E rfl (R_extract E rfl rfl) rfl ?_
    clear E a; intro a E
    refine WL_nil ?_
    refine T_n ?_
    refine WP_seq ?_
    refine WP_condT E rfl rfl ?_
    refine WP_skip ?_
    refine T_n ?_
    refine WP_block ?_
    refine WP_seq ?_
    refine WP_region ?_
    refine S_v E rfl (R_entry (k := k_15) (v := .int .i64 u_17) E (by have S1 := S; simp only [encE, List.map_append, List.map_cons, List.map_nil] at S1; exact S1) hf_5 rfl) rfl ?_
    clear E a; intro a E
    refine S_v E rfl (R_extract E rfl rfl) rfl ?_
    clear E a; intro a E
    refine S_v E rfl (R_extract E rfl rfl) rfl ?_
    clear E a; intro a E
    refine S_v E rfl (R_assign E rfl) rfl ?_
    clear E a; intro a E
    refine S_v E rfl (R_assign E rfl) rfl ?_
    clear E a; intro a E
    refine WL_nil ?_
    refine T_n ?_
    refine WP_region ?_
    refine S_v E rfl (R_load E rfl (Try.isAgg33 _) (cell_blk (S.mem (.tail _ (.tail _ (.head _)))))) rfl ?_
    clear E a; intro a E
    refine S_v E rfl (R_move E rfl) rfl ?_
    clear E a; intro a E
    refine S_v E rfl (R_move E rfl) rfl ?_
    clear E a; intro a E
    refine S_v E rfl (R_build (u := .agg #[.int .i64 k_15, .int .i64 u_17]) (vs := [.int .i64 k_15, .int .i64 u_17]) E rfl (fun w => FB59_0_1_ii k_15 u_17 w)) rfl ?_
    clear E a; intro a E
    refine S_x (X_buildA1 (R := RP2) (cs := [.int .i64 k_15, .int .i64 u_17]) (x0 := (k_15, u_17)) RP2_mono E S rfl T33 rfl rfl rfl rfl ?_)
    clear E a S; rintro a v_18 w M_19 hM_19 hv_18 S E
    replace hm0 := hm0.le hM_19
    replace hf_5 := hf_5.le hM_19
    replace hr3 := hr3.le RP2_mono hM_19
    replace S := S.front1
    refine S_x (X_appendR (R := RP2) (zs := p) (ys := [(k_15, u_17)]) E S hr3 rfl rfl rfl T33 hv_18 one_RP2 (by first | omega | (simp; done) | (simp; omega) | (simp_all; omega)) (by first | omega | (simp; done) | (simp; omega) | (simp_all; omega)) ?_)
    clear E a S; rintro a w v_20 xs_21 E hr_22 S
    have ho_23 := S.oneC
    replace S := S.front2
    refine S_x0 (X_store E S rfl rfl (Try.sizeOf33 _) ho_23 ?_)
    clear E a S; rintro a w E S
    refine WL_nil ?_
    refine B_n ?_
    refine T_n ?_
    replace S := S.front1
    replace S := S.front2
    replace S := S.front1
    have hre : p ++ [(k_15, u_17)] = (p ++ [(k_15, u_17)]) := by first | rfl | (simp; done)
    replace S := S.reR hre
    replace hr_22 := hr_22.eq hre
    clear hre
    replace S := S.front1
    replace S := S.reIt (p' := (encE (Value.int .i64) (p ++ [(k_15, u_17)]))) (congrArg (encE (Value.int .i64)) (show p ++ [(k_15, u_17)] = (p ++ [(k_15, u_17)]) by first | rfl | (simp; done)))
    exact ⟨(p ++ [(k_15, u_17)]), ⟨M_19, _, _, (hM_8.trans hM_19), S, E.keep ⟨rfl, rfl, trivial⟩, (by exact snocNk (by assumption) (by assumption)), (by exact snocSk (by assumption) (by assumption)), (by simp; omega), hr_22⟩, (by simp; omega)⟩

set_option maxRecDepth 100000 in
set_option maxHeartbeats 4000000 in
theorem impl_PickByKeys {M : Hp} {v0 : Value} {l0 : List (Int × Int)} (h0 : RdS 2 RP2 M v0 l0) {v1 : Value} {l1 : List Int} (h1 : RdI M v1 l1) (hb : l0.length ≤ 1000000000000) :
    Pu Try.prog (.func (.func 66) #[] #[]) M [v0, v1] (fun r M' => RdS 2 RP2 M' r (entE ((mkE l0).filter (fun e : Int × Int => decide (e.1 ∈ l1))))) := by
  refine Pu_enter Try.func66 rfl Try.ntmps66 rfl Try.call66 ?_
  intro a w M1 H hM1 S E
  replace h0 := h0.le RP2_mono hM1
  replace h1 := h1.le hM1
  have b0 := h0.bound
  have b1 := h1.bound
  refine WP_seq ?_
  refine WP_region ?_
  refine S_v E rfl (R_assign E rfl) rfl ?_
  clear E a; intro a E
  refine WL_nil ?_
  refine T_n ?_
  refine WP_seq ?_
  refine WP_region ?_
  refine S_v E rfl (R_move E rfl) rfl ?_
  clear E a; intro a E
  refine S_x (X_pu E S rfl rfl rfl (impl_mapOf h0) (Hp.le.refl _) ?_)
  clear E a S; rintro a v_2 w M_1 hM_1 hv_2 S E
  replace h0 := h0.le RP2_mono hM_1
  replace h1 := h1.le hM_1
  refine S_v E rfl (R_move E rfl) rfl ?_
  clear E a; intro a E
  refine S_x (X_pu E S rfl rfl rfl (lo_PickByKeys hv_2 h1) (Hp.le.refl _) ?_)
  clear E a S; rintro a v_4 w M_3 hM_3 ⟨q_5, hv_4, hkq_5⟩ S E
  replace h0 := h0.le RP2_mono hM_3
  replace h1 := h1.le hM_3
  replace hv_2 := hv_2.le hM_3
  refine S_x (X_pu E S rfl rfl rfl (impl_pairs hv_4 (by first | omega | (exact bigE _ l0 (by first | (rw [ixm_len]; exact Nat.le_refl _) | exact kpix_len _ _ _ | (rw [List.length_map]; exact Nat.le_refl _)) (by omega)) | exact Nat.le_trans (mkE_len _) (by omega) | (exact Nat.le_trans (lk_len (by assumption) (by assumption)) (by first | omega | exact Nat.le_trans (fl_mk _ _) (by omega))) | exact Nat.le_trans (mk_perm_len (by assumption)) (by omega) | exact Nat.le_trans (Nat.le_trans (lk_len (by assumption) (by assumption)) (mkl_len _ _)) (by omega) | (first | omega | (simp; omega) | (simp; done) | (simp_all; omega) | grind) | exact Nat.le_trans (upM_len _ _) (by omega) | exact Nat.le_trans (Nat.le_trans (lk_len (by assumption) (by assumption)) (flt_len _ _)) (by omega))) (Hp.le.refl _) ?_)
  clear E a S; rintro a v_7 w M_6 hM_6 hv_7 S E
  replace h0 := h0.le RP2_mono hM_6
  replace h1 := h1.le hM_6
  replace hv_2 := hv_2.le hM_6
  replace hv_4 := hv_4.le hM_6
  refine S_v E rfl (R_assign E rfl) rfl ?_
  clear E a; intro a E
  refine WL_nil ?_
  refine T_n ?_
  refine WP_ret ?_
  exact F_ret1 E Try.results66 rfl ⟨_, rfl, M_6, (hM_1.trans (hM_3.trans hM_6)), (by rw [show (entE ((mkE l0).filter (fun e : Int × Int => decide (e.1 ∈ l1)))) = (srtK Prod.fst q_5) from by (exact (lk_srt (by assumption) (by assumption)).symm)]; exact hv_7), S⟩

set_option maxRecDepth 100000 in
set_option maxHeartbeats 4000000 in
theorem laws_brief {M : Hp} {v0 : Value} {l0 : List (List (Int × Int))} (h0 : RdS 1 (RSl 2 RP2) M v0 l0) :
    Pu Try.prog (.func (.func 60) #[] #[]) M [v0] (fun r M' => r = .bool (decide ((∀ x ∈ l0, x.length ≤ 200) ∧ (l0).length ≤ 20))) := by
  refine Pu_enter Try.func60 rfl Try.ntmps60 rfl Try.call60 ?_
  intro a w M1 H hM1 S E
  replace h0 := h0.le (RSl_mono RP2_mono) hM1
  have b0 := h0.bound
  refine WP_seq ?_
  refine WP_region ?_
  refine S_v E rfl (R_assign E rfl) rfl ?_
  clear E a; intro a E
  refine WL_nil ?_
  refine T_n ?_
  refine WP_seq ?_
  refine WP_seq ?_
  refine WP_region ?_
  refine S_v E rfl (R_move E rfl) rfl ?_
  clear E a; intro a E
  refine S_v E rfl (R_lenV E rfl T70 h0.len) rfl ?_
  clear E a; intro a E
  refine S_v E rfl (R_move E rfl) rfl ?_
  clear E a; intro a E
  refine WL_nil ?_
  refine T_n ?_
  refine WP_block ?_
  refine WP_loop (γ := Nat) (fun (k : Nat) a w => ∃ (M_1 : Hp), Hp.le M1 M_1 ∧ St w M_1 (H) ∧ Env a 18 [] [(0, v0), (5, v0), (6, .int .i64 (((l0).length : Nat) : Int)), (7, .int .i64 ((k : Nat) : Int))] ∧ (k ≤ (l0).length) ∧ (∀ x ∈ l0.take k, x.length ≤ 200)) (fun k => ((l0).length) - k) 0 ⟨M1, Hp.le.refl _, S, E.keep ⟨rfl, rfl, rfl, rfl, trivial⟩, by ((try clear S); (try clear E); first | assumption | omega | rfl | (simp; done) | (simp_all; done) | (simp [List.take_add_one, *]; done) | grind [List.take_add_one]), (by simp)⟩ ?_
  try clear E
  try clear S
  try clear a
  try clear w
  rintro k a w ⟨M_1, hM_1, S, E, hL0_0, hL0_1⟩
  replace h0 := h0.le (RSl_mono RP2_mono) hM_1
  refine WP_seq ?_
  refine WP_region ?_
  refine S_v E rfl (R_lss E rfl rfl) rfl ?_
  clear E a; intro a E
  refine WL_nil ?_
  refine T_n ?_
  refine WP_seq ?_
  refine WP_cond E rfl (fun hc_2 => ?_) (fun hc_2 => ?_)
  · replace hc_2 := of_decide_eq_true hc_2
    refine WP_skip ?_
    refine T_n ?_
    refine WP_seq ?_
    refine WP_block ?_
    refine WP_seq ?_
    refine WP_region ?_
    obtain ⟨x_3, hx_3⟩ : ∃ x, (l0)[k]? = some x := ⟨_, List.getElem?_eq_getElem (by first | omega | (simp; done) | (simp; omega) | (simp_all; omega))⟩
    obtain ⟨p_4, u_5, hp_4, qp_4, hu_5⟩ := RdPP.at h0 hx_3
    have bu_5 := hu_5.bound
    refine S_v E rfl (R_idx E rfl rfl T70 hp_4 rfl) rfl ?_
    clear E a; intro a E
    refine S_v E rfl (R_loadM E rfl Try.isAgg33 S.imm qp_4) rfl ?_
    clear E a; intro a E
    refine S_v E rfl (R_assign E rfl) rfl ?_
    clear E a; intro a E
    refine WL_nil ?_
    refine T_n ?_
    refine WP_seq ?_
    refine WP_region ?_
    refine S_v E rfl (R_move E rfl) rfl ?_
    clear E a; intro a E
    refine S_v E rfl (R_lenV E rfl T33 hu_5.len) rfl ?_
    clear E a; intro a E
    refine S_v E rfl (R_gtr E rfl rfl) rfl ?_
    clear E a; intro a E
    refine WL_nil ?_
    refine T_n ?_
    refine WP_cond E rfl (fun hc_6 => ?_) (fun hc_6 => ?_)
    · replace hc_6 := of_decide_eq_true hc_6
      refine WP_seq ?_
      refine WP_region ?_
      refine S_v E rfl (R_assign E rfl) rfl ?_
      clear E a; intro a E
      refine WL_nil ?_
      refine T_n ?_
      refine WP_ret ?_
      refine B_r ?_
      refine T_r ?_
      refine T_r ?_
      refine B_r ?_
      refine T_r ?_
      exact F_ret1 E Try.results60 rfl ⟨_, rfl, M_1, hM_1, (bF (by (intro h9; have h8 := h9.1 _ (List.mem_of_getElem? (by assumption)); omega))), S⟩
    · replace hc_6 := of_decide_eq_false hc_6
      refine WP_skip ?_
      refine B_n ?_
      refine T_n ?_
      refine WP_region ?_
      refine S_v E rfl (R_addx (m := ((k + 1 : Nat) : Int)) E rfl rfl (by omega) (by omega)) rfl ?_
      clear E a; intro a E
      refine S_v E rfl (R_move E rfl) rfl ?_
      clear E a; intro a E
      refine WL_nil ?_
      refine T_n ?_
      exact ⟨k + 1, ⟨M_1, hM_1, S, E.keep ⟨rfl, rfl, rfl, rfl, trivial⟩, by ((try clear S); (try clear E); first | assumption | omega | rfl | (simp; done) | (simp_all; done) | (simp [List.take_add_one, *]; done) | grind [List.take_add_one]), (by exact brf_step (by assumption) (by omega) (by assumption))⟩, by omega⟩
  · replace hc_2 := of_decide_eq_false hc_2
    refine WP_exit ?_
    refine T_x ?_
    refine T_x ?_
    refine B_x ?_
    refine T_n ?_
    refine WP_seq ?_
    refine WP_region ?_
    refine S_v E rfl (R_move E rfl) rfl ?_
    clear E a; intro a E
    refine S_v E rfl (R_lenV E rfl T70 h0.len) rfl ?_
    clear E a; intro a E
    refine S_v E rfl (R_leq E rfl rfl) rfl ?_
    clear E a; intro a E
    refine S_v E rfl (R_assign E rfl) rfl ?_
    clear E a; intro a E
    refine WL_nil ?_
    refine T_n ?_
    refine WP_ret ?_
    exact F_ret1 E Try.results60 rfl ⟨_, rfl, M_1, hM_1, (congrArg Value.bool (by (rw [List.take_of_length_le (by omega)] at hL0_1; rw [decide_eq_decide]; constructor <;> intro h9 <;> first | exact ⟨hL0_1, by omega⟩ | omega))), S⟩

set_option maxRecDepth 100000 in
set_option maxHeartbeats 4000000 in
theorem laws_few {M : Hp} {v0 : Value} {l0 : List (List Int)} (h0 : RdII M v0 l0) :
    Pu Try.prog (.func (.func 12) #[] #[]) M [v0] (fun r M' => r = .bool (decide (∀ x ∈ l0, x.length ≤ 300))) := by
  refine Pu_enter Try.func12 rfl Try.ntmps12 rfl Try.call12 ?_
  intro a w M1 H hM1 S E
  replace h0 := h0.le hM1
  have b0 := h0.bound
  refine WP_seq ?_
  refine WP_region ?_
  refine S_v E rfl (R_assign E rfl) rfl ?_
  clear E a; intro a E
  refine WL_nil ?_
  refine T_n ?_
  refine WP_seq ?_
  refine WP_seq ?_
  refine WP_region ?_
  refine S_v E rfl (R_move E rfl) rfl ?_
  clear E a; intro a E
  refine S_v E rfl (R_lenV E rfl T39 h0.len) rfl ?_
  clear E a; intro a E
  refine S_v E rfl (R_move E rfl) rfl ?_
  clear E a; intro a E
  refine WL_nil ?_
  refine T_n ?_
  refine WP_block ?_
  refine WP_loop (γ := Nat) (fun (k : Nat) a w => ∃ (M_1 : Hp), Hp.le M1 M_1 ∧ St w M_1 (H) ∧ Env a 15 [] [(5, v0), (6, .int .i64 (((l0).length : Nat) : Int)), (7, .int .i64 ((k : Nat) : Int))] ∧ (k ≤ (l0).length) ∧ (∀ x ∈ l0.take k, x.length ≤ 300)) (fun k => ((l0).length) - k) 0 ⟨M1, Hp.le.refl _, S, E.keep ⟨rfl, rfl, rfl, trivial⟩, by ((try clear S); (try clear E); first | assumption | omega | rfl | (simp; done) | (simp_all; done) | (simp [List.take_add_one, *]; done) | grind [List.take_add_one]), by ((try clear S); (try clear E); first | assumption | omega | rfl | (simp; done) | (simp_all; done) | (simp [List.take_add_one, *]; done) | grind [List.take_add_one])⟩ ?_
  try clear E
  try clear S
  try clear a
  try clear w
  rintro k a w ⟨M_1, hM_1, S, E, hL0_0, hL0_1⟩
  replace h0 := h0.le hM_1
  refine WP_seq ?_
  refine WP_region ?_
  refine S_v E rfl (R_lss E rfl rfl) rfl ?_
  clear E a; intro a E
  refine WL_nil ?_
  refine T_n ?_
  refine WP_seq ?_
  refine WP_cond E rfl (fun hc_2 => ?_) (fun hc_2 => ?_)
  · replace hc_2 := of_decide_eq_true hc_2
    refine WP_skip ?_
    refine T_n ?_
    refine WP_seq ?_
    refine WP_block ?_
    refine WP_seq ?_
    refine WP_region ?_
    obtain ⟨x_3, hx_3⟩ : ∃ x, (l0)[k]? = some x := ⟨_, List.getElem?_eq_getElem (by first | omega | (simp; done) | (simp; omega) | (simp_all; omega))⟩
    obtain ⟨p_4, u_5, hp_4, qp_4, hu_5⟩ := h0.at hx_3
    have bu_5 := hu_5.bound
    refine S_v E rfl (R_idx E rfl rfl T39 hp_4 rfl) rfl ?_
    clear E a; intro a E
    refine S_v E rfl (R_loadM E rfl Try.isAgg22 S.imm qp_4) rfl ?_
    clear E a; intro a E
    refine S_v E rfl (R_assign E rfl) rfl ?_
    clear E a; intro a E
    refine WL_nil ?_
    refine T_n ?_
    refine WP_seq ?_
    refine WP_region ?_
    refine S_v E rfl (R_move E rfl) rfl ?_
    clear E a; intro a E
    refine S_v E rfl (R_lenV E rfl T22 hu_5.len) rfl ?_
    clear E a; intro a E
    refine S_v E rfl (R_gtr E rfl rfl) rfl ?_
    clear E a; intro a E
    refine WL_nil ?_
    refine T_n ?_
    refine WP_cond E rfl (fun hc_6 => ?_) (fun hc_6 => ?_)
    · replace hc_6 := of_decide_eq_true hc_6
      refine WP_seq ?_
      refine WP_region ?_
      refine S_v E rfl (R_assign E rfl) rfl ?_
      clear E a; intro a E
      refine WL_nil ?_
      refine T_n ?_
      refine WP_ret ?_
      refine B_r ?_
      refine T_r ?_
      refine T_r ?_
      refine B_r ?_
      refine T_r ?_
      exact F_ret1 E Try.results12 rfl ⟨_, rfl, M_1, hM_1, (bF (by ((try clear S); (try clear E); first | assumption | omega | rfl | (simp; done) | (simp_all; done) | (simp [List.take_add_one, *]; done) | grind [List.take_add_one]))), S⟩
    · replace hc_6 := of_decide_eq_false hc_6
      refine WP_skip ?_
      refine B_n ?_
      refine T_n ?_
      refine WP_region ?_
      refine S_v E rfl (R_addx (m := ((k + 1 : Nat) : Int)) E rfl rfl (by omega) (by omega)) rfl ?_
      clear E a; intro a E
      refine S_v E rfl (R_move E rfl) rfl ?_
      clear E a; intro a E
      refine WL_nil ?_
      refine T_n ?_
      exact ⟨k + 1, ⟨M_1, hM_1, S, E.keep ⟨rfl, rfl, rfl, trivial⟩, by ((try clear S); (try clear E); first | assumption | omega | rfl | (simp; done) | (simp_all; done) | (simp [List.take_add_one, *]; done) | grind [List.take_add_one]), by ((try clear S); (try clear E); first | assumption | omega | rfl | (simp; done) | (simp_all; done) | (simp [List.take_add_one, *]; done) | grind [List.take_add_one])⟩, by omega⟩
  · replace hc_2 := of_decide_eq_false hc_2
    refine WP_exit ?_
    refine T_x ?_
    refine T_x ?_
    refine B_x ?_
    refine T_n ?_
    refine WP_seq ?_
    refine WP_region ?_
    refine S_v E rfl (R_assign E rfl) rfl ?_
    clear E a; intro a E
    refine WL_nil ?_
    refine T_n ?_
    refine WP_ret ?_
    exact F_ret1 E Try.results12 rfl ⟨_, rfl, M_1, hM_1, (bT (by ((try clear S); (try clear E); first | assumption | omega | rfl | (simp; done) | (simp_all; done) | (simp [List.take_add_one, *]; done) | grind [List.take_add_one]))), S⟩

set_option maxRecDepth 100000 in
set_option maxHeartbeats 4000000 in
theorem laws_fair {M : Hp} {pk0 pn0 : Int} {w0 : Value} {pl0 : List Int} (hw0 : RdI M w0 pl0) (gn0 : -9223372036854775808 ≤ pn0 ∧ pn0 ≤ 9223372036854775807) :
    Pu Try.prog (.func (.func 45) #[] #[]) M [.agg #[.int .i64 pk0, .int .i64 pn0, w0]] (fun r M' => r = .bool (decide ((-1099511627776 < pn0 ∧ pn0 < 1099511627776) ∧ (pl0).length ≤ 300))) := by
  refine Pu_enter Try.func45 rfl Try.ntmps45 rfl Try.call45 ?_
  intro a w M1 H hM1 S E
  replace hw0 := hw0.le hM1
  have bw0 := hw0.bound
  refine WP_seq ?_
  refine WP_region ?_
  refine S_x (X_box (cs := #[.int .i64 pk0, .int .i64 pn0, w0]) E S rfl rfl rfl ?_)
  clear E a S; rintro a w b_1 E S
  obtain ⟨M_2, hM_2, hb_1, S⟩ := S.freezeB
  replace hw0 := hw0.le hM_2
  refine S_v E rfl (R_assign E rfl) rfl ?_
  clear E a; intro a E
  refine WL_nil ?_
  refine T_n ?_
  refine WP_seq ?_
  refine WP_region ?_
  refine S_v E rfl (R_fieldAddr E rfl (FA54_1 _)) rfl ?_
  clear E a; intro a E
  refine S_v E rfl (R_loadM E rfl Try.isAgg3 S.imm (cellM_boxo hb_1 rfl)) rfl ?_
  clear E a; intro a E
  refine S_v E rfl (R_gtr E rfl rfl) rfl ?_
  clear E a; intro a E
  refine S_v E rfl (R_move E rfl) rfl ?_
  clear E a; intro a E
  refine split_bool (decide ((-1099511627776) < pn0)) (fun hc_3 => ?_) (fun hc_3 => ?_)
  · replace E := E.val (t := 5) rfl hc_3
    replace E := E.val (t := 6) rfl hc_3
    replace hc_3 := of_decide_eq_true hc_3
    refine WL_guard_yes E rfl rfl ?_
    refine S_v E rfl (R_fieldAddr E rfl (FA54_1 _)) rfl ?_
    clear E a; intro a E
    refine WL_guard_yes E rfl rfl ?_
    refine S_v E rfl (R_loadM E rfl Try.isAgg3 S.imm (cellM_boxo hb_1 rfl)) rfl ?_
    clear E a; intro a E
    refine WL_guard_yes E rfl rfl ?_
    refine S_v E rfl (R_lss E rfl rfl) rfl ?_
    clear E a; intro a E
    refine S_v E rfl (R_pickT E rfl rfl) rfl ?_
    clear E a; intro a E
    refine S_v E rfl (R_move E rfl) rfl ?_
    clear E a; intro a E
    refine split_bool (decide (pn0 < 1099511627776)) (fun hc_4 => ?_) (fun hc_4 => ?_)
    · replace E := E.val (t := 9) rfl hc_4
      replace E := E.val (t := 10) rfl hc_4
      replace E := E.val (t := 11) rfl hc_4
      replace hc_4 := of_decide_eq_true hc_4
      refine WL_guard_yes E rfl rfl ?_
      refine S_v E rfl (R_fieldAddr E rfl (FA54_2 _)) rfl ?_
      clear E a; intro a E
      refine WL_guard_yes E rfl rfl ?_
      refine S_v E rfl (R_loadM E rfl Try.isAgg22 S.imm (cellM_boxo hb_1 rfl)) rfl ?_
      clear E a; intro a E
      refine WL_guard_yes E rfl rfl ?_
      refine S_v E rfl (R_lenV E rfl T22 hw0.len) rfl ?_
      clear E a; intro a E
      refine WL_guard_yes E rfl rfl ?_
      refine S_v E rfl (R_leq E rfl rfl) rfl ?_
      clear E a; intro a E
      refine S_v E rfl (R_pickT E rfl rfl) rfl ?_
      clear E a; intro a E
      refine S_v E rfl (R_assign E rfl) rfl ?_
      clear E a; intro a E
      refine WL_nil ?_
      refine T_n ?_
      refine WP_ret ?_
      exact F_ret1 E Try.results45 rfl ⟨_, rfl, M_2, hM_2, (congrArg Value.bool (by ((try clear S); (try clear E); first | assumption | omega | rfl | (simp; done) | (simp_all; done) | (simp [List.take_add_one, *]; done) | grind [List.take_add_one]))), S⟩
    · replace E := E.val (t := 9) rfl hc_4
      replace E := E.val (t := 10) rfl hc_4
      replace E := E.val (t := 11) rfl hc_4
      replace hc_4 := of_decide_eq_false hc_4
      refine WL_guard_no E rfl rfl rfl rfl fun a E => ?_
      refine WL_guard_no E rfl rfl rfl rfl fun a E => ?_
      refine WL_guard_no E rfl rfl rfl rfl fun a E => ?_
      refine WL_guard_no E rfl rfl rfl rfl fun a E => ?_
      refine S_v E rfl (R_pickF E rfl rfl) rfl ?_
      clear E a; intro a E
      refine S_v E rfl (R_assign E rfl) rfl ?_
      clear E a; intro a E
      refine WL_nil ?_
      refine T_n ?_
      refine WP_ret ?_
      exact F_ret1 E Try.results45 rfl ⟨_, rfl, M_2, hM_2, (bF (by ((try clear S); (try clear E); first | assumption | omega | rfl | (simp; done) | (simp_all; done) | (simp [List.take_add_one, *]; done) | grind [List.take_add_one]))), S⟩
  · replace E := E.val (t := 5) rfl hc_3
    replace E := E.val (t := 6) rfl hc_3
    replace hc_3 := of_decide_eq_false hc_3
    refine WL_guard_no E rfl rfl rfl rfl fun a E => ?_
    refine WL_guard_no E rfl rfl rfl rfl fun a E => ?_
    refine WL_guard_no E rfl rfl rfl rfl fun a E => ?_
    refine S_v E rfl (R_pickF E rfl rfl) rfl ?_
    clear E a; intro a E
    refine S_v E rfl (R_move E rfl) rfl ?_
    clear E a; intro a E
    refine WL_guard_no E rfl rfl rfl rfl fun a E => ?_
    refine WL_guard_no E rfl rfl rfl rfl fun a E => ?_
    refine WL_guard_no E rfl rfl rfl rfl fun a E => ?_
    refine WL_guard_no E rfl rfl rfl rfl fun a E => ?_
    refine S_v E rfl (R_pickF E rfl rfl) rfl ?_
    clear E a; intro a E
    refine S_v E rfl (R_assign E rfl) rfl ?_
    clear E a; intro a E
    refine WL_nil ?_
    refine T_n ?_
    refine WP_ret ?_
    exact F_ret1 E Try.results45 rfl ⟨_, rfl, M_2, hM_2, (bF (by ((try clear S); (try clear E); first | assumption | omega | rfl | (simp; done) | (simp_all; done) | (simp [List.take_add_one, *]; done) | grind [List.take_add_one]))), S⟩

set_option maxRecDepth 100000 in
set_option maxHeartbeats 4000000 in
theorem lo_Entries {M : Hp} {m0 : Value} {q0 : List (Int × Int)} (hm0 : RdM M m0 (encE (Value.int .i64) q0)) (hb : q0.length ≤ 1000000000000) :
    Pu Try.prog (.func (.func 134) #[] #[]) M [m0] (fun r M' => ∃ p_, RdS 2 RP2 M' r p_ ∧ p_.Perm q0) := by
  refine Pu_enter Try.func134 rfl Try.ntmps134 rfl Try.call134 ?_
  intro a w M1 H hM1 S E
  replace hm0 := hm0.le hM1
  refine WP_seq ?_
  refine WP_region ?_
  refine S_v E rfl (R_assign E rfl) rfl ?_
  clear E a; intro a E
  refine WL_nil ?_
  refine T_n ?_
  refine WP_seq ?_
  refine WP_region ?_
  refine S_v E rfl (R_move E rfl) rfl ?_
  clear E a; intro a E
  refine S_v E rfl ((R_lenF S.imm hm0 E MT103 rfl).trans (by rw [encE_len])) rfl ?_
  clear E a; intro a E
  refine S_x (X_make0 (k := (q0).length) E S rfl rfl rfl T130 rfl (by omega) (by omega) (by omega) ?_)
  clear E a S; rintro a w v_1 E S
  have hr_2 : RowsR RP2 2 M1 ([] : List (Int × Int)) [] := RowsR.nil
  replace S : St w M1 (OwnC 156 2 v_1 ([] : List (Int × Int)).length [] :: _) := S
  refine S_v E rfl (R_assign E rfl) rfl ?_
  clear E a; intro a E
  refine WL_nil ?_
  refine T_n ?_
  refine WP_seq ?_
  refine WP_seq ?_
  refine WP_region ?_
  refine S_v E rfl (R_move E rfl) rfl ?_
  clear E a; intro a E
  refine S_x (X_range E S rfl MT103 hm0 rfl ?_)
  clear E a S; rintro a w i_3 es_4 ck_5 E hf_6 S
  replace S : St w M1 (ItO m0 es_4 ck_5 i_3 (encE (Value.int .i64) ([] : List (Int × Int))) :: _) := S
  refine WL_nil ?_
  refine T_n ?_
  refine WP_block ?_
  replace S := S.front1
  replace S := S.front1
  replace S := S.front1
  have hre : ([] : List (Int × Int)) = [] := by first | rfl | (simp; done) | exact putA_ap2 _ _ _ _
  replace S := S.reR hre
  replace hr_2 := hr_2.eq hre
  clear hre
  replace S := S.front1
  replace S := S.reIt (p' := (encE (Value.int .i64) [])) (congrArg (encE (Value.int .i64)) (show ([] : List (Int × Int)) = [] by first | rfl | (simp; done) | exact putA_ap2 _ _ _ _))
  refine WP_loop (γ := List (Int × Int)) (fun (p : List (Int × Int)) a w => ∃ (M_7 : Hp) (u3 : Value) (xs3 : List Value), Hp.le M1 M_7 ∧ St w M_7 (ItO m0 es_4 ck_5 i_3 (encE (Value.int .i64) p) :: OwnC 156 2 u3 p.length xs3 :: H) ∧ Env a 23 [] [(3, u3), (10, .pointer (some ⟨i_3, 0, none⟩))] ∧ ((p.map Prod.fst).Nodup) ∧ (∀ z ∈ p, z ∈ q0) ∧ (p.length ≤ q0.length) ∧ RowsR RP2 2 M_7 p xs3) (fun p => q0.length - p.length) [] ⟨M1, _, _, Hp.le.refl _, S, E.keep ⟨rfl, rfl, trivial⟩, (by simp), (by simp), (by simp), hr_2⟩ ?_
  try clear E
  try clear S
  try clear a
  try clear w
  rintro p a w ⟨M_7, u3, xs3, hM_7, S, E, hL0_0, hL0_1, hL0_2, hr3⟩
  replace hm0 := hm0.le hM_7
  replace hf_6 := hf_6.le hM_7
  refine WP_seq ?_
  refine WP_region ?_
  refine S_x (X_nextE (vf := (Value.int .i64)) E S rfl hf_6 rfl (by assumption) (by assumption) ?_ ?_)
  · clear E a S; rintro a E hpm_8 S
    refine S_v E rfl (R_extract E rfl rfl) rfl ?_
    clear E a; intro a E
    refine WL_nil ?_
    refine T_n ?_
    refine WP_seq ?_
    refine WP_condF E rfl rfl ?_
    refine WP_exit ?_
    refine T_x ?_
    refine T_x ?_
    refine B_x ?_
    refine T_n ?_
    refine WP_seq ?_
    refine WP_region ?_
    refine S_v E rfl (R_move E rfl) rfl ?_
    clear E a; intro a E
    refine S_v E rfl (R_assign E rfl) rfl ?_
    clear E a; intro a E
    refine WL_nil ?_
    refine T_n ?_
    refine WP_ret ?_
    replace S := S.front1
    have S0 := S; clear S
    obtain ⟨M_9, hM_9, hz_10, S⟩ := S0.freezeR hr3 RP2_mono (by (first | omega | (simp; omega)))
    clear S0
    replace hm0 := hm0.le hM_9
    replace hf_6 := hf_6.le hM_9
    exact F_ret1 E Try.results134 rfl ⟨_, rfl, M_9, (hM_7.trans hM_9), ⟨_, hz_10, by (first | assumption | exact List.Perm.symm (by assumption))⟩, S.drop⟩
  · clear E a S w; rintro a w k_11 u_13 E hk_12 hk_12n hk_12l S
    refine S_v E rfl (R_extract E rfl rfl) rfl ?_
    clear E a; intro a E
    refine WL_nil ?_
    refine T_n ?_
    refine WP_seq ?_
    refine WP_condT E rfl rfl ?_
    refine WP_skip ?_
    refine T_n ?_
    refine WP_block ?_
    refine WP_seq ?_
    refine WP_region ?_
    refine S_v E rfl (R_entry (k := k_11) (v := .int .i64 u_13) E (by have S1 := S; simp only [encE, List.map_append, List.map_cons, List.map_nil] at S1; exact S1) hf_6 rfl) rfl ?_
    clear E a; intro a E
    refine S_v E rfl (R_extract E rfl rfl) rfl ?_
    clear E a; intro a E
    refine S_v E rfl (R_extract E rfl rfl) rfl ?_
    clear E a; intro a E
    refine S_v E rfl (R_assign E rfl) rfl ?_
    clear E a; intro a E
    refine S_v E rfl (R_assign E rfl) rfl ?_
    clear E a; intro a E
    refine WL_nil ?_
    refine T_n ?_
    refine WP_region ?_
    refine S_v E rfl (R_move E rfl) rfl ?_
    clear E a; intro a E
    refine S_v E rfl (R_move E rfl) rfl ?_
    clear E a; intro a E
    refine S_v E rfl (R_move E rfl) rfl ?_
    clear E a; intro a E
    refine S_v E rfl (R_build (u := .agg #[.int .i64 k_11, .int .i64 u_13]) (vs := [.int .i64 k_11, .int .i64 u_13]) E rfl (fun w => FB156_0_1_ii k_11 u_13 w)) rfl ?_
    clear E a; intro a E
    refine S_x (X_buildA1 (R := RP2) (cs := [.int .i64 k_11, .int .i64 u_13]) (x0 := (k_11, u_13)) RP2_mono E S rfl T130 rfl rfl rfl rfl ?_)
    clear E a S; rintro a v_14 w M_15 hM_15 hv_14 S E
    replace hm0 := hm0.le hM_15
    replace hf_6 := hf_6.le hM_15
    replace hr3 := hr3.le RP2_mono hM_15
    replace S := S.front1
    refine S_x (X_appendR (R := RP2) (zs := p) (ys := [(k_11, u_13)]) E S hr3 rfl rfl rfl T130 hv_14 one_RP2 (by first | omega | (simp; done) | (simp; omega) | (simp_all; omega)) (by first | omega | (simp; done) | (simp; omega) | (simp_all; omega)) ?_)
    clear E a S; rintro a w v_16 xs_17 E hr_18 S
    refine S_v E rfl (R_assign E rfl) rfl ?_
    clear E a; intro a E
    refine WL_nil ?_
    refine B_n ?_
    refine T_n ?_
    replace S := S.front1
    replace S := S.front1
    have hre : p ++ [(k_11, u_13)] = (p ++ [(k_11, u_13)]) := by first | rfl | (simp; done) | exact putA_ap2 _ _ _ _
    replace S := S.reR hre
    replace hr_18 := hr_18.eq hre
    clear hre
    replace S := S.front1
    replace S := S.reIt (p' := (encE (Value.int .i64) (p ++ [(k_11, u_13)]))) (congrArg (encE (Value.int .i64)) (show p ++ [(k_11, u_13)] = (p ++ [(k_11, u_13)]) by first | rfl | (simp; done) | exact putA_ap2 _ _ _ _))
    exact ⟨(p ++ [(k_11, u_13)]), ⟨M_15, _, _, (hM_7.trans hM_15), S, E.keep ⟨rfl, rfl, trivial⟩, (by exact snocNk (by assumption) (by assumption)), (by exact snocSk (by assumption) (by assumption)), (by simp; omega), hr_18⟩, (by simp; omega)⟩

set_option maxRecDepth 100000 in
set_option maxHeartbeats 4000000 in
theorem lo_FromEntries {M : Hp} {v0 : Value} {l0 : List (Int × Int)} (h0 : RdS 2 RP2 M v0 l0) :
    Pu Try.prog (.func (.func 133) #[] #[]) M [v0] (fun r M' => RdM M' r (encE (Value.int .i64) (mkE l0))) := by
  refine Pu_enter Try.func133 rfl Try.ntmps133 rfl Try.call133 ?_
  intro a w M1 H hM1 S E
  replace h0 := h0.le RP2_mono hM1
  have b0 := h0.bound
  refine WP_seq ?_
  refine WP_region ?_
  refine S_v E rfl (R_assign E rfl) rfl ?_
  clear E a; intro a E
  refine WL_nil ?_
  refine T_n ?_
  refine WP_seq ?_
  refine WP_region ?_
  refine S_v E rfl (R_move E rfl) rfl ?_
  clear E a; intro a E
  refine S_v E rfl (R_lenV E rfl T130 h0.len) rfl ?_
  clear E a; intro a E
  refine S_x (X_makeMapR E S rfl MT103 rfl ?_)
  clear E a S; rintro a w b_1 E S
  replace S : St w M1 (OwnE (Value.int .i64) b_1 ([] : List (Int × Int)) :: _) := S
  refine S_v E rfl (R_assign E rfl) rfl ?_
  clear E a; intro a E
  refine WL_nil ?_
  refine T_n ?_
  refine WP_seq ?_
  refine WP_seq ?_
  refine WP_region ?_
  refine S_v E rfl (R_move E rfl) rfl ?_
  clear E a; intro a E
  refine S_v E rfl (R_lenV E rfl T130 h0.len) rfl ?_
  clear E a; intro a E
  refine S_v E rfl (R_move E rfl) rfl ?_
  clear E a; intro a E
  refine WL_nil ?_
  refine T_n ?_
  refine WP_block ?_
  replace S := S.reM (L' := (encE (Value.int .i64) (mkE (l0.take 0)))) (congrArg (encE (Value.int .i64)) (show ([] : List (Int × Int)) = mkE (l0.take 0) by first | rfl | (simp [mkE]; done) | (rw [tk_snoc (by assumption), mkE_app]; done)))
  refine WP_loop (γ := Nat) (fun (k : Nat) a w => ∃ (M_2 : Hp), Hp.le M1 M_2 ∧ St w M_2 (OwnE (Value.int .i64) b_1 (mkE (l0.take k)) :: H) ∧ Env a 26 [] [(0, v0), (3, .map (some b_1)), (9, .int .i64 (((l0).length : Nat) : Int)), (10, .int .i64 ((k : Nat) : Int))] ∧ (k ≤ (l0).length)) (fun k => ((l0).length) - k) 0 ⟨M1, Hp.le.refl _, S, E.keep ⟨rfl, rfl, rfl, rfl, trivial⟩, by ((try clear S); (try clear E); first | assumption | omega | rfl | (simp; done) | (simp_all; done) | (simp [List.take_add_one, *]; done) | grind [List.take_add_one])⟩ ?_
  try clear E
  try clear S
  try clear a
  try clear w
  rintro k a w ⟨M_2, hM_2, S, E, hL0_0⟩
  replace h0 := h0.le RP2_mono hM_2
  refine WP_seq ?_
  refine WP_region ?_
  refine S_v E rfl (R_lss E rfl rfl) rfl ?_
  clear E a; intro a E
  refine WL_nil ?_
  refine T_n ?_
  refine WP_seq ?_
  refine WP_cond E rfl (fun hc_3 => ?_) (fun hc_3 => ?_)
  · replace hc_3 := of_decide_eq_true hc_3
    refine WP_skip ?_
    refine T_n ?_
    refine WP_seq ?_
    refine WP_block ?_
    refine WP_seq ?_
    refine WP_region ?_
    refine S_v E rfl (R_move E rfl) rfl ?_
    clear E a; intro a E
    refine S_v E rfl (R_assign E rfl) rfl ?_
    clear E a; intro a E
    refine WL_nil ?_
    refine T_n ?_
    replace S := S.mono_heap (w' := World.drew _) rfl
    refine WP_drawn (C := fun x w => agree M_2 w) (bf := (fun i => [])) [0, 1, 2, 3, 4, 5, 6, 7, 8, 9, 10] [0, 1, 2, 3, 4, 5, 6, 7, 8, 9, 10, 11] Try.mixed (by kernel_rfl) (fun x hq => S.imm) ?_
    refine D_v E rfl rfl rfl (fun w hC => (R_move E rfl)) ?_
    clear E a; intro a E
    refine D_v E rfl rfl rfl (fun w hC => (R_move E rfl)) ?_
    clear E a; intro a E
    refine D_v E rfl rfl rfl (fun w hC => (R_move E rfl)) ?_
    clear E a; intro a E
    obtain ⟨x_4, hx_4⟩ : ∃ x, (l0)[k]? = some x := ⟨_, List.getElem?_eq_getElem (by first | omega | (simp; done) | (simp; omega) | (simp_all; omega))⟩
    obtain ⟨p_5, hp_5, qp_5⟩ := RdP2.at h0 hx_4
    refine D_v E rfl rfl rfl (fun w hC => (R_idx E rfl rfl T130 hp_5 rfl)) ?_
    clear E a; intro a E
    have qf_6 := qp_5 0 _ rfl
    refine D_v E rfl rfl rfl (fun w hC => (R_fieldAddr E rfl (FA156_0 _))) ?_
    clear E a; intro a E
    refine D_v E rfl rfl rfl (fun w hC => (R_loadM E rfl Try.isAgg3 hC qf_6)) ?_
    clear E a; intro a E
    refine D_v E rfl rfl rfl (fun w hC => (R_move E rfl)) ?_
    clear E a; intro a E
    refine D_v E rfl rfl rfl (fun w hC => (R_move E rfl)) ?_
    clear E a; intro a E
    obtain ⟨p_7, hp_7, qp_7⟩ := RdP2.at h0 hx_4
    refine D_v E rfl rfl rfl (fun w hC => (R_idx E rfl rfl T130 hp_7 rfl)) ?_
    clear E a; intro a E
    have qf_8 := qp_7 1 _ rfl
    refine D_v E rfl rfl rfl (fun w hC => (R_fieldAddr E rfl (FA156_1 _))) ?_
    clear E a; intro a E
    refine D_v E rfl rfl rfl (fun w hC => (R_loadM E rfl Try.isAgg3 hC qf_8)) ?_
    clear E a; intro a E
    refine D_x rfl rfl rfl (X_updateE (vf := (Value.int .i64)) (u := x_4.2) E S MT103 rfl rfl rfl ?_)
    clear E a S; rintro a w E S
    refine ⟨fun x hq hb => (agree_le (Hp.le.refl _) S.imm), ?_⟩
    refine D_end (NoP_n ?_)
    refine B_n ?_
    refine T_n ?_
    refine WP_region ?_
    refine S_v E rfl (R_addx (m := ((k + 1 : Nat) : Int)) E rfl rfl (by omega) (by omega)) rfl ?_
    clear E a; intro a E
    refine S_v E rfl (R_move E rfl) rfl ?_
    clear E a; intro a E
    refine WL_nil ?_
    refine T_n ?_
    replace S := S.reM (L' := (encE (Value.int .i64) (mkE (l0.take (k + 1))))) (congrArg (encE (Value.int .i64)) (show putK (mkE (l0.take k)) x_4.1 x_4.2 = mkE (l0.take (k + 1)) by first | rfl | (simp [mkE]; done) | (rw [tk_snoc (by assumption), mkE_app]; done)))
    exact ⟨k + 1, ⟨M_2, hM_2, S, E.keep ⟨rfl, rfl, rfl, rfl, trivial⟩, by ((try clear S); (try clear E); first | assumption | omega | rfl | (simp; done) | (simp_all; done) | (simp [List.take_add_one, *]; done) | grind [List.take_add_one])⟩, by omega⟩
  · replace hc_3 := of_decide_eq_false hc_3
    refine WP_exit ?_
    refine T_x ?_
    refine T_x ?_
    refine B_x ?_
    refine T_n ?_
    refine WP_seq ?_
    refine WP_region ?_
    refine S_v E rfl (R_move E rfl) rfl ?_
    clear E a; intro a E
    refine S_v E rfl (R_assign E rfl) rfl ?_
    clear E a; intro a E
    refine WL_nil ?_
    refine T_n ?_
    refine WP_ret ?_
    have S0 := S; clear S
    obtain ⟨M_9, hM_9, hm_10, S⟩ := S0.freezeM
    clear S0
    replace h0 := h0.le RP2_mono hM_9
    exact F_ret1 E Try.results133 rfl ⟨_, rfl, M_9, (hM_2.trans hM_9), (by rw [show (mkE l0) = (mkE (l0.take k)) from by (rw [List.take_of_length_le (by omega)])]; exact hm_10), S⟩

set_option maxRecDepth 100000 in
set_option maxHeartbeats 4000000 in
theorem impl_Entries {M : Hp} {v0 : Value} {l0 : List (Int × Int)} (h0 : RdS 2 RP2 M v0 l0) (hb : l0.length ≤ 1000000000000) :
    Pu Try.prog (.func (.func 61) #[] #[]) M [v0] (fun r M' => RdS 2 RP2 M' r (entE l0)) := by
  refine Pu_enter Try.func61 rfl Try.ntmps61 rfl Try.call61 ?_
  intro a w M1 H hM1 S E
  replace h0 := h0.le RP2_mono hM1
  have b0 := h0.bound
  refine WP_seq ?_
  refine WP_region ?_
  refine S_v E rfl (R_assign E rfl) rfl ?_
  clear E a; intro a E
  refine WL_nil ?_
  refine T_n ?_
  refine WP_seq ?_
  refine WP_region ?_
  refine S_v E rfl (R_move E rfl) rfl ?_
  clear E a; intro a E
  refine S_x (X_pu E S rfl rfl rfl (impl_mapOf h0) (Hp.le.refl _) ?_)
  clear E a S; rintro a v_2 w M_1 hM_1 hv_2 S E
  replace h0 := h0.le RP2_mono hM_1
  refine S_x (X_pu E S rfl rfl rfl (lo_Entries hv_2 (by first | omega | exact Nat.le_trans (mkE_len _) (by omega))) (Hp.le.refl _) ?_)
  clear E a S; rintro a v_4 w M_3 hM_3 ⟨q_5, hv_4, hpq_5⟩ S E
  replace h0 := h0.le RP2_mono hM_3
  replace hv_2 := hv_2.le hM_3
  refine S_x (X_pu E S rfl rfl rfl (lo_FromEntries hv_4) (Hp.le.refl _) ?_)
  clear E a S; rintro a v_7 w M_6 hM_6 hv_7 S E
  replace h0 := h0.le RP2_mono hM_6
  replace hv_2 := hv_2.le hM_6
  replace hv_4 := hv_4.le RP2_mono hM_6
  refine S_x (X_pu E S rfl rfl rfl (impl_pairs hv_7 (by first | omega | (exact bigE _ l0 (by first | (rw [ixm_len]; exact Nat.le_refl _) | exact kpix_len _ _ _ | (rw [List.length_map]; exact Nat.le_refl _)) (by omega)) | exact Nat.le_trans (mkE_len _) (by omega) | (exact Nat.le_trans (lk_len (by assumption) (by assumption)) (by first | omega | exact Nat.le_trans (fl_mk _ _) (by omega))) | exact Nat.le_trans (mk_perm_len (by assumption)) (by omega) | exact Nat.le_trans (Nat.le_trans (lk_len (by assumption) (by assumption)) (mkl_len _ _)) (by omega) | (first | omega | (simp; omega) | (simp; done) | (simp_all; omega) | grind) | exact Nat.le_trans (upM_len _ _) (by omega) | exact Nat.le_trans (Nat.le_trans (lk_len (by assumption) (by assumption)) (flt_len _ _)) (by omega))) (Hp.le.refl _) ?_)
  clear E a S; rintro a v_9 w M_8 hM_8 hv_9 S E
  replace h0 := h0.le RP2_mono hM_8
  replace hv_2 := hv_2.le hM_8
  replace hv_4 := hv_4.le RP2_mono hM_8
  replace hv_7 := hv_7.le hM_8
  refine S_v E rfl (R_assign E rfl) rfl ?_
  clear E a; intro a E
  refine WL_nil ?_
  refine T_n ?_
  refine WP_ret ?_
  exact F_ret1 E Try.results61 rfl ⟨_, rfl, M_8, (hM_1.trans (hM_3.trans (hM_6.trans hM_8))), (by rw [show (entE l0) = (srtK Prod.fst (mkE q_5)) from by (exact ent_back (by assumption))]; exact hv_9), S⟩

set_option maxRecDepth 100000 in
set_option maxHeartbeats 4000000 in
theorem lo_PickBy {M : Hp} {m0 : Value} {q0 : List (Int × Int)} (hm0 : RdM M m0 (encE (Value.int .i64) q0)){v1 : Value} {f1 : Int → Int → Bool} (h1 : PF2B Try.prog v1 M f1) :
    Pu Try.prog (.func (.func 137) #[] #[]) M [m0, v1] (fun r M' => ∃ q_, RdM M' r (encE (Value.int .i64) q_) ∧ lkE q_ = lkE ((q0).filter (fun e : Int × Int => f1 e.1 e.2))) := by
  refine Pu_enter Try.func137 rfl Try.ntmps137 rfl Try.call137 ?_
  intro a w M1 H hM1 S E
  replace hm0 := hm0.le hM1
  replace h1 := h1.le hM1
  have hnq : (q0.map Prod.fst).Nodup := keys_encE (Value.int .i64) q0 ▸ hm0.nodup
  refine WP_seq ?_
  refine WP_region ?_
  refine S_v E rfl (R_assign E rfl) rfl ?_
  clear E a; intro a E
  refine WL_nil ?_
  refine T_n ?_
  refine WP_seq ?_
  refine WP_region ?_
  refine S_x (X_makeMap E S rfl ?_)
  clear E a S; rintro a w b_1 E S
  replace S : St w M1 (OwnE (Value.int .i64) b_1 ([] : List (Int × Int)) :: _) := S
  refine S_v E rfl (R_assign E rfl) rfl ?_
  clear E a; intro a E
  refine WL_nil ?_
  refine T_n ?_
  refine WP_seq ?_
  refine WP_seq ?_
  refine WP_region ?_
  refine S_v E rfl (R_move E rfl) rfl ?_
  clear E a; intro a E
  refine S_x (X_range E S rfl MT103 hm0 rfl ?_)
  clear E a S; rintro a w i_2 es_3 ck_4 E hf_5 S
  replace S : St w M1 (ItO m0 es_3 ck_4 i_2 (encE (Value.int .i64) ([] : List (Int × Int))) :: _) := S
  refine WL_nil ?_
  refine T_n ?_
  refine WP_block ?_
  replace S := S.front1
  replace S := S.front1
  replace S := S.front1
  replace S := S.reM (L' := (encE (Value.int .i64) (mkE ([].filter (fun e : Int × Int => f1 e.1 e.2))))) (congrArg (encE (Value.int .i64)) (show ([] : List (Int × Int)) = mkE ([].filter (fun e : Int × Int => f1 e.1 e.2)) by first | rfl | (simp [mkE]; done) | (refine flm_y (F := fun e : Int × Int => f1 e.1 e.2) ?_; first | assumption | (simp_all; done)) | (refine flm_n (F := fun e : Int × Int => f1 e.1 e.2) ?_; first | assumption | (simp_all; done))))
  replace S := S.front1
  replace S := S.reIt (p' := (encE (Value.int .i64) [])) (congrArg (encE (Value.int .i64)) (show ([] : List (Int × Int)) = [] by first | rfl | (simp [mkE]; done) | (refine flm_y (F := fun e : Int × Int => f1 e.1 e.2) ?_; first | assumption | (simp_all; done)) | (refine flm_n (F := fun e : Int × Int => f1 e.1 e.2) ?_; first | assumption | (simp_all; done))))
  refine WP_loop (γ := List (Int × Int)) (fun (p : List (Int × Int)) a w => ∃ (M_6 : Hp), Hp.le M1 M_6 ∧ St w M_6 (ItO m0 es_3 ck_4 i_2 (encE (Value.int .i64) p) :: OwnE (Value.int .i64) b_1 (mkE (p.filter (fun e : Int × Int => f1 e.1 e.2))) :: H) ∧ Env a 24 [] [(1, v1), (5, .map (some b_1)), (10, .pointer (some ⟨i_2, 0, none⟩))] ∧ ((p.map Prod.fst).Nodup) ∧ (∀ z ∈ p, z ∈ q0) ∧ (p.length ≤ q0.length)) (fun p => q0.length - p.length) [] ⟨M1, Hp.le.refl _, S, E.keep ⟨rfl, rfl, rfl, trivial⟩, (by simp), (by simp), (by simp)⟩ ?_
  try clear E
  try clear S
  try clear a
  try clear w
  rintro p a w ⟨M_6, hM_6, S, E, hL0_0, hL0_1, hL0_2⟩
  replace hm0 := hm0.le hM_6
  replace h1 := h1.le hM_6
  replace hf_5 := hf_5.le hM_6
  refine WP_seq ?_
  refine WP_region ?_
  refine S_x (X_nextE (vf := (Value.int .i64)) E S rfl hf_5 rfl (by assumption) (by assumption) ?_ ?_)
  · clear E a S; rintro a E hpm_7 S
    refine S_v E rfl (R_extract E rfl rfl) rfl ?_
    clear E a; intro a E
    refine WL_nil ?_
    refine T_n ?_
    refine WP_seq ?_
    refine WP_condF E rfl rfl ?_
    refine WP_exit ?_
    refine T_x ?_
    refine T_x ?_
    refine B_x ?_
    refine T_n ?_
    refine WP_seq ?_
    refine WP_region ?_
    refine S_v E rfl (R_move E rfl) rfl ?_
    clear E a; intro a E
    refine S_v E rfl (R_assign E rfl) rfl ?_
    clear E a; intro a E
    refine WL_nil ?_
    refine T_n ?_
    refine WP_ret ?_
    replace S := S.front1
    have S0 := S; clear S
    obtain ⟨M_8, hM_8, hm_9, S⟩ := S0.freezeM
    clear S0
    replace hm0 := hm0.le hM_8
    replace h1 := h1.le hM_8
    replace hf_5 := hf_5.le hM_8
    exact F_ret1 E Try.results137 rfl ⟨_, rfl, M_8, (hM_6.trans hM_8), ⟨_, hm_9, by (exact flm_k hnq (by assumption))⟩, S.drop⟩
  · clear E a S w; rintro a w k_10 u_12 E hk_11 hk_11n hk_11l S
    refine S_v E rfl (R_extract E rfl rfl) rfl ?_
    clear E a; intro a E
    refine WL_nil ?_
    refine T_n ?_
    refine WP_seq ?_
    refine WP_condT E rfl rfl ?_
    refine WP_skip ?_
    refine T_n ?_
    refine WP_block ?_
    refine WP_seq ?_
    refine WP_region ?_
    refine S_v E rfl (R_entry (k := k_10) (v := .int .i64 u_12) E (by have S1 := S; simp only [encE, List.map_append, List.map_cons, List.map_nil] at S1; exact S1) hf_5 rfl) rfl ?_
    clear E a; intro a E
    refine S_v E rfl (R_extract E rfl rfl) rfl ?_
    clear E a; intro a E
    refine S_v E rfl (R_extract E rfl rfl) rfl ?_
    clear E a; intro a E
    refine S_v E rfl (R_assign E rfl) rfl ?_
    clear E a; intro a E
    refine S_v E rfl (R_assign E rfl) rfl ?_
    clear E a; intro a E
    refine WL_nil ?_
    refine T_n ?_
    refine WP_seq ?_
    refine WP_region ?_
    refine S_v E rfl (R_move E rfl) rfl ?_
    clear E a; intro a E
    refine S_v E rfl (R_move E rfl) rfl ?_
    clear E a; intro a E
    refine S_v E rfl (R_move E rfl) rfl ?_
    clear E a; intro a E
    refine S_x (X_pu E S rfl rfl rfl (h1.2 k_10 u_12) (Hp.le.refl _) ?_)
    clear E a S; rintro a _ w M_13 hM_13 rfl S E
    replace hm0 := hm0.le hM_13
    replace h1 := h1.le hM_13
    replace hf_5 := hf_5.le hM_13
    refine WL_nil ?_
    refine T_n ?_
    refine WP_cond E rfl (fun hc_14 => ?_) (fun hc_14 => ?_)
    · refine WP_region ?_
      refine S_v E rfl (R_move E rfl) rfl ?_
      clear E a; intro a E
      refine S_v E rfl (R_move E rfl) rfl ?_
      clear E a; intro a E
      refine S_v E rfl (R_move E rfl) rfl ?_
      clear E a; intro a E
      replace S := S.front1
      refine S_x0 (X_updateE (vf := (Value.int .i64)) (u := u_12) E S MT103 rfl rfl rfl ?_)
      clear E a S; rintro a w E S
      refine WL_nil ?_
      refine B_n ?_
      refine T_n ?_
      replace S := S.front1
      replace S := S.front1
      replace S := S.reM (L' := (encE (Value.int .i64) (mkE ((p ++ [(k_10, u_12)]).filter (fun e : Int × Int => f1 e.1 e.2))))) (congrArg (encE (Value.int .i64)) (show putK (mkE (p.filter (fun e : Int × Int => f1 e.1 e.2))) k_10 u_12 = mkE ((p ++ [(k_10, u_12)]).filter (fun e : Int × Int => f1 e.1 e.2)) by first | rfl | (simp [mkE]; done) | (refine flm_y (F := fun e : Int × Int => f1 e.1 e.2) ?_; first | assumption | (simp_all; done)) | (refine flm_n (F := fun e : Int × Int => f1 e.1 e.2) ?_; first | assumption | (simp_all; done))))
      replace S := S.front1
      replace S := S.reIt (p' := (encE (Value.int .i64) (p ++ [(k_10, u_12)]))) (congrArg (encE (Value.int .i64)) (show p ++ [(k_10, u_12)] = (p ++ [(k_10, u_12)]) by first | rfl | (simp [mkE]; done) | (refine flm_y (F := fun e : Int × Int => f1 e.1 e.2) ?_; first | assumption | (simp_all; done)) | (refine flm_n (F := fun e : Int × Int => f1 e.1 e.2) ?_; first | assumption | (simp_all; done))))
      exact ⟨(p ++ [(k_10, u_12)]), ⟨M_13, (hM_6.trans hM_13), S, E.keep ⟨rfl, rfl, rfl, trivial⟩, (by exact snocNk (by assumption) (by assumption)), (by exact snocSk (by assumption) (by assumption)), (by simp; omega)⟩, (by simp; omega)⟩
    · refine WP_skip ?_
      refine B_n ?_
      refine T_n ?_
      replace S := S.front1
      replace S := S.reM (L' := (encE (Value.int .i64) (mkE ((p ++ [(k_10, u_12)]).filter (fun e : Int × Int => f1 e.1 e.2))))) (congrArg (encE (Value.int .i64)) (show mkE (p.filter (fun e : Int × Int => f1 e.1 e.2)) = mkE ((p ++ [(k_10, u_12)]).filter (fun e : Int × Int => f1 e.1 e.2)) by first | rfl | (simp [mkE]; done) | (refine flm_y (F := fun e : Int × Int => f1 e.1 e.2) ?_; first | assumption | (simp_all; done)) | (refine flm_n (F := fun e : Int × Int => f1 e.1 e.2) ?_; first | assumption | (simp_all; done))))
      replace S := S.front1
      replace S := S.reIt (p' := (encE (Value.int .i64) (p ++ [(k_10, u_12)]))) (congrArg (encE (Value.int .i64)) (show p ++ [(k_10, u_12)] = (p ++ [(k_10, u_12)]) by first | rfl | (simp [mkE]; done) | (refine flm_y (F := fun e : Int × Int => f1 e.1 e.2) ?_; first | assumption | (simp_all; done)) | (refine flm_n (F := fun e : Int × Int => f1 e.1 e.2) ?_; first | assumption | (simp_all; done))))
      exact ⟨(p ++ [(k_10, u_12)]), ⟨M_13, (hM_6.trans hM_13), S, E.keep ⟨rfl, rfl, rfl, trivial⟩, (by exact snocNk (by assumption) (by assumption)), (by exact snocSk (by assumption) (by assumption)), (by simp; omega)⟩, (by simp; omega)⟩

set_option maxRecDepth 100000 in
set_option maxHeartbeats 4000000 in
theorem impl_mod {M : Hp} {x0 x1 : Int} (hn : x1 ≠ 0) (g1 : -9223372036854775808 ≤ x1 ∧ x1 ≤ 9223372036854775807) :
    Pu Try.prog (.func (.func 170) #[] #[]) M [.int .i64 x0, .int .i64 x1] (fun r M' => r = .int .i64 (x0 % x1)) := by
  refine Pu_enter Try.func170 rfl Try.ntmps170 rfl Try.call170 ?_
  intro a w M1 H hM1 S E
  have ht := tmod_emod x0 x1 hn
  refine WP_seq ?_
  refine WP_region ?_
  refine S_v E rfl (R_assign E rfl) rfl ?_
  clear E a; intro a E
  refine WL_nil ?_
  refine T_n ?_
  refine WP_seq ?_
  refine WP_region ?_
  refine S_v E rfl (R_move E rfl) rfl ?_
  clear E a; intro a E
  refine S_v E rfl (R_move E rfl) rfl ?_
  clear E a; intro a E
  refine S_v E rfl (R_rem E rfl rfl (by first | decide | omega)) rfl ?_
  clear E a; intro a E
  refine S_v E rfl (R_assign E rfl) rfl ?_
  clear E a; intro a E
  refine WL_nil ?_
  refine T_n ?_
  refine WP_seq ?_
  refine WP_seq ?_
  refine WP_region ?_
  refine S_v E rfl (R_move E rfl) rfl ?_
  clear E a; intro a E
  refine S_v E rfl (R_lss E rfl rfl) rfl ?_
  clear E a; intro a E
  refine WL_nil ?_
  refine T_n ?_
  refine WP_cond E rfl (fun hc_1 => ?_) (fun hc_1 => ?_)
  · replace hc_1 := of_decide_eq_true hc_1
    refine WP_seq ?_
    refine WP_seq ?_
    refine WP_region ?_
    refine S_v E rfl (R_move E rfl) rfl ?_
    clear E a; intro a E
    refine S_v E rfl (R_lss E rfl rfl) rfl ?_
    clear E a; intro a E
    refine WL_nil ?_
    refine T_n ?_
    refine WP_cond E rfl (fun hc_2 => ?_) (fun hc_2 => ?_)
    · replace hc_2 := of_decide_eq_true hc_2
      refine WP_seq ?_
      refine WP_region ?_
      refine S_v E rfl (R_move E rfl) rfl ?_
      clear E a; intro a E
      refine S_v E rfl (R_move E rfl) rfl ?_
      clear E a; intro a E
      refine S_v E rfl (R_subx (m := (Int.tmod x0 x1) - x1) E rfl rfl (by omega) (by omega)) rfl ?_
      clear E a; intro a E
      refine S_v E rfl (R_assign E rfl) rfl ?_
      clear E a; intro a E
      refine WL_nil ?_
      refine T_n ?_
      refine WP_ret ?_
      refine T_r ?_
      refine T_r ?_
      exact F_ret1 E Try.results170 rfl ⟨_, rfl, M1, (Hp.le.refl _), (congrArg (Value.int .i64) (by omega)), S⟩
    · replace hc_2 := of_decide_eq_false hc_2
      refine WP_skip ?_
      refine T_n ?_
      refine WP_seq ?_
      refine WP_region ?_
      refine S_v E rfl (R_move E rfl) rfl ?_
      clear E a; intro a E
      refine S_v E rfl (R_move E rfl) rfl ?_
      clear E a; intro a E
      refine S_v E rfl (R_addx (m := (Int.tmod x0 x1) + x1) E rfl rfl (by omega) (by omega)) rfl ?_
      clear E a; intro a E
      refine S_v E rfl (R_assign E rfl) rfl ?_
      clear E a; intro a E
      refine WL_nil ?_
      refine T_n ?_
      refine WP_ret ?_
      refine T_r ?_
      exact F_ret1 E Try.results170 rfl ⟨_, rfl, M1, (Hp.le.refl _), (congrArg (Value.int .i64) (by omega)), S⟩
  · replace hc_1 := of_decide_eq_false hc_1
    refine WP_skip ?_
    refine T_n ?_
    refine WP_seq ?_
    refine WP_region ?_
    refine S_v E rfl (R_move E rfl) rfl ?_
    clear E a; intro a E
    refine S_v E rfl (R_assign E rfl) rfl ?_
    clear E a; intro a E
    refine WL_nil ?_
    refine T_n ?_
    refine WP_ret ?_
    exact F_ret1 E Try.results170 rfl ⟨_, rfl, M1, (Hp.le.refl _), (congrArg (Value.int .i64) (by omega)), S⟩

set_option maxRecDepth 100000 in
set_option maxHeartbeats 4000000 in
theorem slices_Index {M : Hp} {v0 : Value} {l0 : List Int} (h0 : RdI M v0 l0){x1 : Int} :
    Pu Try.prog (.func (.func 180) #[] #[]) M [v0, .int .i64 x1] (fun r M' => r = .int .i64 (idxOf l0 x1)) := by
  refine Pu_enter Try.func180 rfl Try.ntmps180 rfl Try.call180 ?_
  intro a w M1 H hM1 S E
  replace h0 := h0.le hM1
  have b0 := h0.bound
  refine WP_seq ?_
  refine WP_region ?_
  refine S_v E rfl (R_assign E rfl) rfl ?_
  clear E a; intro a E
  refine WL_nil ?_
  refine T_n ?_
  refine WP_seq ?_
  refine WP_seq ?_
  refine WP_region ?_
  refine S_v E rfl (R_move E rfl) rfl ?_
  clear E a; intro a E
  refine S_v E rfl (R_lenV E rfl T22 h0.len) rfl ?_
  clear E a; intro a E
  refine S_v E rfl (R_move E rfl) rfl ?_
  clear E a; intro a E
  refine WL_nil ?_
  refine T_n ?_
  refine WP_block ?_
  refine WP_loop (γ := Nat) (fun (k : Nat) a w => ∃ (M_1 : Hp), Hp.le M1 M_1 ∧ St w M_1 (H) ∧ Env a 19 [] [(0, v0), (1, .int .i64 x1), (7, .int .i64 (((l0).length : Nat) : Int)), (8, .int .i64 ((k : Nat) : Int))] ∧ (k ≤ (l0).length) ∧ (∀ j, j < k → l0[j]? ≠ some x1)) (fun k => ((l0).length) - k) 0 ⟨M1, Hp.le.refl _, S, E.keep ⟨rfl, rfl, rfl, rfl, trivial⟩, by ((try clear S); (try clear E); first | assumption | omega | rfl | (simp; done) | (simp_all; done) | (simp [List.take_add_one, *]; done) | grind [List.take_add_one]), by ((try clear S); (try clear E); first | assumption | omega | rfl | (simp; done) | (simp_all; done) | (simp [List.take_add_one, *]; done) | grind [List.take_add_one])⟩ ?_
  try clear E
  try clear S
  try clear a
  try clear w
  rintro k a w ⟨M_1, hM_1, S, E, hL0_0, hL0_1⟩
  replace h0 := h0.le hM_1
  refine WP_seq ?_
  refine WP_region ?_
  refine S_v E rfl (R_lss E rfl rfl) rfl ?_
  clear E a; intro a E
  refine WL_nil ?_
  refine T_n ?_
  refine WP_seq ?_
  refine WP_cond E rfl (fun hc_2 => ?_) (fun hc_2 => ?_)
  · replace hc_2 := of_decide_eq_true hc_2
    refine WP_skip ?_
    refine T_n ?_
    refine WP_seq ?_
    refine WP_block ?_
    refine WP_seq ?_
    refine WP_region ?_
    refine S_v E rfl (R_move E rfl) rfl ?_
    clear E a; intro a E
    refine S_v E rfl (R_assign E rfl) rfl ?_
    clear E a; intro a E
    refine WL_nil ?_
    refine T_n ?_
    refine WP_seq ?_
    refine WP_region ?_
    refine S_v E rfl (R_move E rfl) rfl ?_
    clear E a; intro a E
    refine S_v E rfl (R_move E rfl) rfl ?_
    clear E a; intro a E
    refine S_v E rfl (R_move E rfl) rfl ?_
    clear E a; intro a E
    obtain ⟨x_3, hx_3⟩ : ∃ x, (l0)[k]? = some x := ⟨_, List.getElem?_eq_getElem (by first | omega | (simp; done) | (simp; omega) | (simp_all; omega))⟩
    obtain ⟨p_4, hp_4, qp_4⟩ := h0.at hx_3
    refine S_v E rfl (R_idx E rfl rfl T22 hp_4 rfl) rfl ?_
    clear E a; intro a E
    refine S_v E rfl (R_loadM E rfl Try.isAgg3 S.imm qp_4) rfl ?_
    clear E a; intro a E
    refine S_v E rfl (R_eql E rfl rfl) rfl ?_
    clear E a; intro a E
    refine WL_nil ?_
    refine T_n ?_
    refine WP_cond E rfl (fun hc_5 => ?_) (fun hc_5 => ?_)
    · replace hc_5 := of_decide_eq_true hc_5
      refine WP_seq ?_
      refine WP_region ?_
      refine S_v E rfl (R_move E rfl) rfl ?_
      clear E a; intro a E
      refine S_v E rfl (R_assign E rfl) rfl ?_
      clear E a; intro a E
      refine WL_nil ?_
      refine T_n ?_
      refine WP_ret ?_
      refine B_r ?_
      refine T_r ?_
      refine T_r ?_
      refine B_r ?_
      refine T_r ?_
      exact F_ret1 E Try.results180 rfl ⟨_, rfl, M_1, hM_1, (congrArg (Value.int .i64) (by (rw [idxOf_some (k := k) (by simp_all) hL0_1]))), S⟩
    · replace hc_5 := of_decide_eq_false hc_5
      refine WP_skip ?_
      refine B_n ?_
      refine T_n ?_
      refine WP_region ?_
      refine S_v E rfl (R_addx (m := ((k + 1 : Nat) : Int)) E rfl rfl (by omega) (by omega)) rfl ?_
      clear E a; intro a E
      refine S_v E rfl (R_move E rfl) rfl ?_
      clear E a; intro a E
      refine WL_nil ?_
      refine T_n ?_
      exact ⟨k + 1, ⟨M_1, hM_1, S, E.keep ⟨rfl, rfl, rfl, rfl, trivial⟩, by ((try clear S); (try clear E); first | assumption | omega | rfl | (simp; done) | (simp_all; done) | (simp [List.take_add_one, *]; done) | grind [List.take_add_one]), by ((try clear S); (try clear E); first | assumption | omega | rfl | (simp; done) | (simp_all; done) | (simp [List.take_add_one, *]; done) | grind [List.take_add_one])⟩, by omega⟩
  · replace hc_2 := of_decide_eq_false hc_2
    refine WP_exit ?_
    refine T_x ?_
    refine T_x ?_
    refine B_x ?_
    refine T_n ?_
    refine WP_seq ?_
    refine WP_region ?_
    refine S_v E rfl (R_assign E rfl) rfl ?_
    clear E a; intro a E
    refine WL_nil ?_
    refine T_n ?_
    refine WP_ret ?_
    exact F_ret1 E Try.results180 rfl ⟨_, rfl, M_1, hM_1, (congrArg (Value.int .i64) (by (rw [idxOf_none (fun j e => by have := (List.getElem?_eq_some_iff.1 e).1; exact hL0_1 j (by omega) e)]))), S⟩

set_option maxRecDepth 100000 in
set_option maxHeartbeats 4000000 in
theorem slices_Contains {M : Hp} {v0 : Value} {l0 : List Int} (h0 : RdI M v0 l0){x1 : Int} :
    Pu Try.prog (.func (.func 171) #[] #[]) M [v0, .int .i64 x1] (fun r M' => r = .bool (decide (x1 ∈ l0))) := by
  refine Pu_enter Try.func171 rfl Try.ntmps171 rfl Try.call171 ?_
  intro a w M1 H hM1 S E
  replace h0 := h0.le hM1
  have b0 := h0.bound
  refine WP_seq ?_
  refine WP_region ?_
  refine S_v E rfl (R_assign E rfl) rfl ?_
  clear E a; intro a E
  refine WL_nil ?_
  refine T_n ?_
  refine WP_seq ?_
  refine WP_region ?_
  refine S_v E rfl (R_move E rfl) rfl ?_
  clear E a; intro a E
  refine S_v E rfl (R_move E rfl) rfl ?_
  clear E a; intro a E
  refine S_x (X_pu E S rfl rfl rfl (slices_Index h0) (Hp.le.refl _) ?_)
  clear E a S; rintro a _ w M_1 hM_1 rfl S E
  replace h0 := h0.le hM_1
  refine S_v E rfl (R_geq E rfl rfl) rfl ?_
  clear E a; intro a E
  refine S_v E rfl (R_assign E rfl) rfl ?_
  clear E a; intro a E
  refine WL_nil ?_
  refine T_n ?_
  refine WP_ret ?_
  exact F_ret1 E Try.results171 rfl ⟨_, rfl, M_1, hM_1, (congrArg Value.bool (by (first | exact idxOf_mem _ _ | rfl))), S⟩

set_option maxRecDepth 100000 in
set_option maxHeartbeats 4000000 in
theorem Pred_at_c {M : Hp} {pk0 pn0 : Int} {w0 : Value} {pl0 : List Int} (hw0 : RdI M w0 pl0) (gn0 : -9223372036854775808 ≤ pn0 ∧ pn0 ≤ 9223372036854775807){x1 x2 : Int} :
    PuC Try.prog 126 M [.agg #[.int .i64 pk0, .int .i64 pn0, w0], .int .i64 x1, .int .i64 x2] (fun r M' => r = .bool (predAt pk0 pn0 pl0 x1 x2)) := by
  refine PuC_enter Try.func126 rfl Try.ntmps126 rfl ?_
  intro a w M1 H hM1 S E
  replace hw0 := hw0.le hM1
  have bw0 := hw0.bound
  refine WP_seq ?_
  refine WP_region ?_
  refine S_x (X_box (cs := #[.int .i64 pk0, .int .i64 pn0, w0]) E S rfl rfl rfl ?_)
  clear E a S; rintro a w b_1 E S
  obtain ⟨M_2, hM_2, hb_1, S⟩ := S.freezeB
  replace hw0 := hw0.le hM_2
  refine S_v E rfl (R_assign E rfl) rfl ?_
  clear E a; intro a E
  refine WL_nil ?_
  refine T_n ?_
  refine WP_seq ?_
  refine WP_seq ?_
  refine WP_region ?_
  refine S_v E rfl (R_fieldAddr E rfl (FA54_0 _)) rfl ?_
  clear E a; intro a E
  refine S_v E rfl (R_loadM E rfl Try.isAgg3 S.imm (cellM_boxo hb_1 rfl)) rfl ?_
  clear E a; intro a E
  refine WL_nil ?_
  refine T_n ?_
  refine WP_block ?_
  refine WP_seq ?_
  refine WP_region ?_
  refine S_v E rfl (R_eql E rfl rfl) rfl ?_
  clear E a; intro a E
  refine S_v E rfl (R_assign E rfl) rfl ?_
  clear E a; intro a E
  refine WL_nil ?_
  refine T_n ?_
  refine WP_cond E rfl (fun hc_3 => ?_) (fun hc_3 => ?_)
  · replace hc_3 := of_decide_eq_true hc_3
    refine WP_seq ?_
    refine WP_region ?_
    refine S_v E rfl (R_move E rfl) rfl ?_
    clear E a; intro a E
    refine S_v E rfl (R_fieldAddr E rfl (FA54_1 _)) rfl ?_
    clear E a; intro a E
    refine S_v E rfl (R_loadM E rfl Try.isAgg3 S.imm (cellM_boxo hb_1 rfl)) rfl ?_
    clear E a; intro a E
    refine S_v E rfl (R_lss E rfl rfl) rfl ?_
    clear E a; intro a E
    refine S_v E rfl (R_assign E rfl) rfl ?_
    clear E a; intro a E
    refine WL_nil ?_
    refine T_n ?_
    refine WP_ret ?_
    refine B_r ?_
    refine T_r ?_
    exact F_ret1 E Try.results126 rfl ⟨_, rfl, M_2, hM_2, (congrArg Value.bool (by (clear E S; unfold predAt; first | (have e := (first_eq (l := pl0) (by assumption)).1; simp_all; done) | (have e : pl0 = [] := List.eq_nil_of_length_eq_zero (by omega); simp_all; done) | (simp_all; done)))), S⟩
  · replace hc_3 := of_decide_eq_false hc_3
    refine WP_seq ?_
    refine WP_region ?_
    refine S_v E rfl (R_eql E rfl rfl) rfl ?_
    clear E a; intro a E
    refine S_v E rfl (R_assign E rfl) rfl ?_
    clear E a; intro a E
    refine WL_nil ?_
    refine T_n ?_
    refine WP_cond E rfl (fun hc_4 => ?_) (fun hc_4 => ?_)
    · replace hc_4 := of_decide_eq_true hc_4
      refine WP_seq ?_
      refine WP_region ?_
      refine S_v E rfl (R_assign E rfl) rfl ?_
      clear E a; intro a E
      refine WL_nil ?_
      refine T_n ?_
      refine WP_seq ?_
      refine WP_seq ?_
      refine WP_region ?_
      refine S_v E rfl (R_fieldAddr E rfl (FA54_2 _)) rfl ?_
      clear E a; intro a E
      refine S_v E rfl (R_loadM E rfl Try.isAgg22 S.imm (cellM_boxo hb_1 rfl)) rfl ?_
      clear E a; intro a E
      refine S_v E rfl (R_lenV E rfl T22 hw0.len) rfl ?_
      clear E a; intro a E
      refine S_v E rfl (R_gtr E rfl rfl) rfl ?_
      clear E a; intro a E
      refine WL_nil ?_
      refine T_n ?_
      refine WP_cond E rfl (fun hc_5 => ?_) (fun hc_5 => ?_)
      · replace hc_5 := of_decide_eq_true hc_5
        refine WP_region ?_
        refine S_v E rfl (R_fieldAddr E rfl (FA54_2 _)) rfl ?_
        clear E a; intro a E
        refine S_v E rfl (R_loadM E rfl Try.isAgg22 S.imm (cellM_boxo hb_1 rfl)) rfl ?_
        clear E a; intro a E
        obtain ⟨x_6, hx_6⟩ : ∃ x, (pl0)[0]? = some x := ⟨_, List.getElem?_eq_getElem (by first | omega | (simp; done) | (simp; omega) | (simp_all; omega))⟩
        obtain ⟨p_7, hp_7, qp_7⟩ := hw0.at hx_6
        refine S_v E rfl (R_idx E rfl rfl T22 hp_7 (by omega)) rfl ?_
        clear E a; intro a E
        refine S_v E rfl (R_loadM E rfl Try.isAgg3 S.imm qp_7) rfl ?_
        clear E a; intro a E
        refine S_v E rfl (R_assign E rfl) rfl ?_
        clear E a; intro a E
        refine WL_nil ?_
        refine T_n ?_
        refine WP_seq ?_
        refine WP_region ?_
        refine S_v E rfl (R_fieldAddr E rfl (FA54_1 _)) rfl ?_
        clear E a; intro a E
        refine S_v E rfl (R_loadM E rfl Try.isAgg3 S.imm (cellM_boxo hb_1 rfl)) rfl ?_
        clear E a; intro a E
        refine S_v E rfl (R_neq E rfl rfl) rfl ?_
        clear E a; intro a E
        refine S_v E rfl (R_move E rfl) rfl ?_
        clear E a; intro a E
        refine split_bool (decide (pn0 ≠ 0)) (fun hc_8 => ?_) (fun hc_8 => ?_)
        · replace E := E.val (t := 28) rfl hc_8
          replace E := E.val (t := 29) rfl hc_8
          replace hc_8 := of_decide_eq_true hc_8
          refine WL_guard_yes E rfl rfl ?_
          refine S_v E rfl (R_move E rfl) rfl ?_
          clear E a; intro a E
          refine WL_guard_yes E rfl rfl ?_
          refine S_v E rfl (R_fieldAddr E rfl (FA54_1 _)) rfl ?_
          clear E a; intro a E
          refine WL_guard_yes E rfl rfl ?_
          refine S_v E rfl (R_loadM E rfl Try.isAgg3 S.imm (cellM_boxo hb_1 rfl)) rfl ?_
          clear E a; intro a E
          refine WL_guard_yes E rfl rfl ?_
          refine S_x (X_pu E S rfl rfl rfl (impl_mod (by first | omega | assumption) (by omega)) (Hp.le.refl _) ?_)
          clear E a S; rintro a _ w M_9 hM_9 rfl S E
          replace hw0 := hw0.le hM_9
          replace hb_1 := hM_9.2 _ _ hb_1
          refine WL_guard_yes E rfl rfl ?_
          refine S_v E rfl (R_move E rfl) rfl ?_
          clear E a; intro a E
          refine WL_guard_yes E rfl rfl ?_
          refine S_v E rfl (R_eql E rfl rfl) rfl ?_
          clear E a; intro a E
          refine S_v E rfl (R_pickT E rfl rfl) rfl ?_
          clear E a; intro a E
          refine S_v E rfl (R_assign E rfl) rfl ?_
          clear E a; intro a E
          refine WL_nil ?_
          refine T_n ?_
          refine WP_ret ?_
          refine B_r ?_
          refine T_r ?_
          exact F_ret1 E Try.results126 rfl ⟨_, rfl, M_9, (hM_2.trans hM_9), (congrArg Value.bool (by (clear E S; unfold predAt; first | (have e := (first_eq (l := pl0) (by assumption)).1; simp_all; done) | (have e : pl0 = [] := List.eq_nil_of_length_eq_zero (by omega); simp_all; done) | (simp_all; done)))), S⟩
        · replace E := E.val (t := 28) rfl hc_8
          replace E := E.val (t := 29) rfl hc_8
          replace hc_8 := of_decide_eq_false hc_8
          refine WL_guard_no E rfl rfl rfl rfl fun a E => ?_
          refine WL_guard_no E rfl rfl rfl rfl fun a E => ?_
          refine WL_guard_no E rfl rfl rfl rfl fun a E => ?_
          refine WL_guard_no E rfl rfl rfl rfl fun a E => ?_
          refine WL_guard_no E rfl rfl rfl rfl fun a E => ?_
          refine WL_guard_no E rfl rfl rfl rfl fun a E => ?_
          refine S_v E rfl (R_pickF E rfl rfl) rfl ?_
          clear E a; intro a E
          refine S_v E rfl (R_assign E rfl) rfl ?_
          clear E a; intro a E
          refine WL_nil ?_
          refine T_n ?_
          refine WP_ret ?_
          refine B_r ?_
          refine T_r ?_
          exact F_ret1 E Try.results126 rfl ⟨_, rfl, M_2, hM_2, (congrArg Value.bool (by (clear E S; unfold predAt; first | (have e := (first_eq (l := pl0) (by assumption)).1; simp_all; done) | (have e : pl0 = [] := List.eq_nil_of_length_eq_zero (by omega); simp_all; done) | (simp_all; done)))), S⟩
      · replace hc_5 := of_decide_eq_false hc_5
        refine WP_skip ?_
        refine T_n ?_
        refine WP_seq ?_
        refine WP_region ?_
        refine S_v E rfl (R_fieldAddr E rfl (FA54_1 _)) rfl ?_
        clear E a; intro a E
        refine S_v E rfl (R_loadM E rfl Try.isAgg3 S.imm (cellM_boxo hb_1 rfl)) rfl ?_
        clear E a; intro a E
        refine S_v E rfl (R_neq E rfl rfl) rfl ?_
        clear E a; intro a E
        refine S_v E rfl (R_move E rfl) rfl ?_
        clear E a; intro a E
        refine split_bool (decide (pn0 ≠ 0)) (fun hc_10 => ?_) (fun hc_10 => ?_)
        · replace E := E.val (t := 28) rfl hc_10
          replace E := E.val (t := 29) rfl hc_10
          replace hc_10 := of_decide_eq_true hc_10
          refine WL_guard_yes E rfl rfl ?_
          refine S_v E rfl (R_move E rfl) rfl ?_
          clear E a; intro a E
          refine WL_guard_yes E rfl rfl ?_
          refine S_v E rfl (R_fieldAddr E rfl (FA54_1 _)) rfl ?_
          clear E a; intro a E
          refine WL_guard_yes E rfl rfl ?_
          refine S_v E rfl (R_loadM E rfl Try.isAgg3 S.imm (cellM_boxo hb_1 rfl)) rfl ?_
          clear E a; intro a E
          refine WL_guard_yes E rfl rfl ?_
          refine S_x (X_pu E S rfl rfl rfl (impl_mod (by first | omega | assumption) (by omega)) (Hp.le.refl _) ?_)
          clear E a S; rintro a _ w M_11 hM_11 rfl S E
          replace hw0 := hw0.le hM_11
          replace hb_1 := hM_11.2 _ _ hb_1
          refine WL_guard_yes E rfl rfl ?_
          refine S_v E rfl (R_move E rfl) rfl ?_
          clear E a; intro a E
          refine WL_guard_yes E rfl rfl ?_
          refine S_v E rfl (R_eql E rfl rfl) rfl ?_
          clear E a; intro a E
          refine S_v E rfl (R_pickT E rfl rfl) rfl ?_
          clear E a; intro a E
          refine S_v E rfl (R_assign E rfl) rfl ?_
          clear E a; intro a E
          refine WL_nil ?_
          refine T_n ?_
          refine WP_ret ?_
          refine B_r ?_
          refine T_r ?_
          exact F_ret1 E Try.results126 rfl ⟨_, rfl, M_11, (hM_2.trans hM_11), (congrArg Value.bool (by (clear E S; unfold predAt; first | (have e := (first_eq (l := pl0) (by assumption)).1; simp_all; done) | (have e : pl0 = [] := List.eq_nil_of_length_eq_zero (by omega); simp_all; done) | (simp_all; done)))), S⟩
        · replace E := E.val (t := 28) rfl hc_10
          replace E := E.val (t := 29) rfl hc_10
          replace hc_10 := of_decide_eq_false hc_10
          refine WL_guard_no E rfl rfl rfl rfl fun a E => ?_
          refine WL_guard_no E rfl rfl rfl rfl fun a E => ?_
          refine WL_guard_no E rfl rfl rfl rfl fun a E => ?_
          refine WL_guard_no E rfl rfl rfl rfl fun a E => ?_
          refine WL_guard_no E rfl rfl rfl rfl fun a E => ?_
          refine WL_guard_no E rfl rfl rfl rfl fun a E => ?_
          refine S_v E rfl (R_pickF E rfl rfl) rfl ?_
          clear E a; intro a E
          refine S_v E rfl (R_assign E rfl) rfl ?_
          clear E a; intro a E
          refine WL_nil ?_
          refine T_n ?_
          refine WP_ret ?_
          refine B_r ?_
          refine T_r ?_
          exact F_ret1 E Try.results126 rfl ⟨_, rfl, M_2, hM_2, (congrArg Value.bool (by (clear E S; unfold predAt; first | (have e := (first_eq (l := pl0) (by assumption)).1; simp_all; done) | (have e : pl0 = [] := List.eq_nil_of_length_eq_zero (by omega); simp_all; done) | (simp_all; done)))), S⟩
    · replace hc_4 := of_decide_eq_false hc_4
      refine WP_seq ?_
      refine WP_region ?_
      refine S_v E rfl (R_eql E rfl rfl) rfl ?_
      clear E a; intro a E
      refine S_v E rfl (R_assign E rfl) rfl ?_
      clear E a; intro a E
      refine WL_nil ?_
      refine T_n ?_
      refine WP_cond E rfl (fun hc_12 => ?_) (fun hc_12 => ?_)
      · replace hc_12 := of_decide_eq_true hc_12
        refine WP_seq ?_
        refine WP_region ?_
        refine S_v E rfl (R_fieldAddr E rfl (FA54_2 _)) rfl ?_
        clear E a; intro a E
        refine S_v E rfl (R_loadM E rfl Try.isAgg22 S.imm (cellM_boxo hb_1 rfl)) rfl ?_
        clear E a; intro a E
        refine S_v E rfl (R_move E rfl) rfl ?_
        clear E a; intro a E
        refine S_x (X_pu E S rfl rfl rfl (slices_Contains hw0) (Hp.le.refl _) ?_)
        clear E a S; rintro a _ w M_13 hM_13 rfl S E
        replace hw0 := hw0.le hM_13
        replace hb_1 := hM_13.2 _ _ hb_1
        refine S_v E rfl (R_assign E rfl) rfl ?_
        clear E a; intro a E
        refine WL_nil ?_
        refine T_n ?_
        refine WP_ret ?_
        refine B_r ?_
        refine T_r ?_
        exact F_ret1 E Try.results126 rfl ⟨_, rfl, M_13, (hM_2.trans hM_13), (congrArg Value.bool (by (clear E S; unfold predAt; first | (have e := (first_eq (l := pl0) (by assumption)).1; simp_all; done) | (have e : pl0 = [] := List.eq_nil_of_length_eq_zero (by omega); simp_all; done) | (simp_all; done)))), S⟩
      · replace hc_12 := of_decide_eq_false hc_12
        refine WP_seq ?_
        refine WP_region ?_
        refine S_v E rfl (R_eql E rfl rfl) rfl ?_
        clear E a; intro a E
        refine S_v E rfl (R_assign E rfl) rfl ?_
        clear E a; intro a E
        refine WL_nil ?_
        refine T_n ?_
        refine WP_cond E rfl (fun hc_14 => ?_) (fun hc_14 => ?_)
        · replace hc_14 := of_decide_eq_true hc_14
          refine WP_seq ?_
          refine WP_region ?_
          refine S_v E rfl (R_move E rfl) rfl ?_
          clear E a; intro a E
          refine S_v E rfl (R_rem E rfl rfl (by first | decide | omega)) rfl ?_
          clear E a; intro a E
          refine S_v E rfl (R_eql E rfl rfl) rfl ?_
          clear E a; intro a E
          refine S_v E rfl (R_assign E rfl) rfl ?_
          clear E a; intro a E
          refine WL_nil ?_
          refine T_n ?_
          refine WP_ret ?_
          refine B_r ?_
          refine T_r ?_
          exact F_ret1 E Try.results126 rfl ⟨_, rfl, M_2, hM_2, (congrArg Value.bool (by (clear E S; unfold predAt; first | (have e := (first_eq (l := pl0) (by assumption)).1; simp_all; done) | (have e : pl0 = [] := List.eq_nil_of_length_eq_zero (by omega); simp_all; done) | (simp_all; done)))), S⟩
        · replace hc_14 := of_decide_eq_false hc_14
          refine WP_skip ?_
          refine B_n ?_
          refine T_n ?_
          refine WP_seq ?_
          refine WP_region ?_
          refine S_v E rfl (R_fieldAddr E rfl (FA54_0 _)) rfl ?_
          clear E a; intro a E
          refine S_v E rfl (R_loadM E rfl Try.isAgg3 S.imm (cellM_boxo hb_1 rfl)) rfl ?_
          clear E a; intro a E
          refine S_v E rfl (R_eql E rfl rfl) rfl ?_
          clear E a; intro a E
          refine S_v E rfl (R_assign E rfl) rfl ?_
          clear E a; intro a E
          refine WL_nil ?_
          refine T_n ?_
          refine WP_ret ?_
          exact F_ret1 E Try.results126 rfl ⟨_, rfl, M_2, hM_2, (congrArg Value.bool (by (clear E S; unfold predAt; first | (have e := (first_eq (l := pl0) (by assumption)).1; simp_all; done) | (have e : pl0 = [] := List.eq_nil_of_length_eq_zero (by omega); simp_all; done) | (simp_all; done)))), S⟩
theorem Pred_at {M : Hp} {pk0 pn0 : Int} {w0 : Value} {pl0 : List Int} (hw0 : RdI M w0 pl0) (gn0 : -9223372036854775808 ≤ pn0 ∧ pn0 ≤ 9223372036854775807){x1 x2 : Int} :
    Pu Try.prog (.func (.func 126) #[.agg #[.int .i64 pk0, .int .i64 pn0, w0]] #[]) M [.int .i64 x1, .int .i64 x2] (fun r M' => r = .bool (predAt pk0 pn0 pl0 x1 x2)) := PuC.pu Try.call126 rfl (Pred_at_c hw0 gn0)
theorem Pred_at_d {M : Hp} {pk0 pn0 : Int} {w0 : Value} {pl0 : List Int} (hw0 : RdI M w0 pl0) (gn0 : -9223372036854775808 ≤ pn0 ∧ pn0 ≤ 9223372036854775807){x1 x2 : Int} :
    Pu Try.prog (.func (.func 126) #[] #[]) M [.agg #[.int .i64 pk0, .int .i64 pn0, w0], .int .i64 x1, .int .i64 x2] (fun r M' => r = .bool (predAt pk0 pn0 pl0 x1 x2)) := PuC.pu Try.call126 rfl (Pred_at_c hw0 gn0)

set_option maxRecDepth 100000 in
set_option maxHeartbeats 4000000 in
theorem impl_PickBy {M : Hp} {v0 : Value} {l0 : List (Int × Int)} (h0 : RdS 2 RP2 M v0 l0){pk1 pn1 : Int} {w1 : Value} {pl1 : List Int} (hw1 : RdI M w1 pl1) (gn1 : -9223372036854775808 ≤ pn1 ∧ pn1 ≤ 9223372036854775807) (hb : l0.length ≤ 1000000000000) :
    Pu Try.prog (.func (.func 67) #[] #[]) M [v0, .agg #[.int .i64 pk1, .int .i64 pn1, w1]] (fun r M' => RdS 2 RP2 M' r (entE ((mkE l0).filter (fun e : Int × Int => predAt pk1 pn1 pl1 e.1 e.2)))) := by
  refine Pu_enter Try.func67 rfl Try.ntmps67 rfl Try.call67 ?_
  intro a w M1 H hM1 S E
  replace h0 := h0.le RP2_mono hM1
  replace hw1 := hw1.le hM1
  have b0 := h0.bound
  refine WP_seq ?_
  refine WP_region ?_
  refine S_x (X_box (cs := #[.int .i64 pk1, .int .i64 pn1, w1]) E S rfl rfl rfl ?_)
  clear E a S; rintro a w b_1 E S
  obtain ⟨M_2, hM_2, hb_1, S⟩ := S.freezeB
  replace h0 := h0.le RP2_mono hM_2
  replace hw1 := hw1.le hM_2
  refine S_v E rfl (R_assign E rfl) rfl ?_
  clear E a; intro a E
  refine WL_nil ?_
  refine T_n ?_
  refine WP_seq ?_
  have hb_1k2 := hb_1
  replace S := S.mono_heap (w' := World.drew _) rfl
  refine WP_drawn (C := fun x w => agree M_2 w) (bf := (fun i => [])) [0, 2, 3, 6] [0, 2, 3, 1, 4, 5, 6] Try.mixed (by kernel_rfl) (fun x hq => S.imm) ?_
  refine D_v E rfl rfl rfl (fun w hC => (R_move E rfl)) ?_
  clear E a; intro a E
  refine D_v E rfl rfl rfl (fun w hC => (R_loadGM E rfl (Try.isAgg54 _) (Try.sizeOf54 _) hC hb_1k2)) ?_
  clear E a; intro a E
  refine D_v E rfl rfl rfl (fun w hC => (R_makeFunc E rfl rfl)) ?_
  clear E a; intro a E
  refine D_x rfl rfl rfl (X_pu E S rfl rfl rfl (impl_mapOf h0) (Hp.le.refl _) ?_)
  clear E a S; rintro a v_4 w M_3 hM_3 hv_4 S E
  replace h0 := h0.le RP2_mono hM_3
  replace hw1 := hw1.le hM_3
  replace hb_1 := hM_3.2 _ _ hb_1
  refine ⟨fun x hq hb => (agree_le hM_3 S.imm), ?_⟩
  refine D_x rfl rfl rfl (X_pu E S rfl rfl rfl (lo_PickBy hv_4 ⟨rfl, fun zx1 zx2 => Pred_at (x1 := zx1) (x2 := zx2) hw1 (by omega)⟩) (Hp.le.refl _) ?_)
  clear E a S; rintro a v_6 w M_5 hM_5 ⟨q_7, hv_6, hkq_7⟩ S E
  replace h0 := h0.le RP2_mono hM_5
  replace hw1 := hw1.le hM_5
  replace hb_1 := hM_5.2 _ _ hb_1
  replace hv_4 := hv_4.le hM_5
  refine ⟨fun x hq hb => (agree_le (hM_3.trans hM_5) S.imm), ?_⟩
  refine D_x rfl rfl rfl (X_pu E S rfl rfl rfl (impl_pairs hv_6 (by first | omega | (exact bigE _ l0 (by first | (rw [ixm_len]; exact Nat.le_refl _) | exact kpix_len _ _ _ | (rw [List.length_map]; exact Nat.le_refl _)) (by omega)) | exact Nat.le_trans (mkE_len _) (by omega) | (exact Nat.le_trans (lk_len (by assumption) (by assumption)) (by first | omega | exact Nat.le_trans (fl_mk _ _) (by omega))) | exact Nat.le_trans (mk_perm_len (by assumption)) (by omega) | exact Nat.le_trans (Nat.le_trans (lk_len (by assumption) (by assumption)) (mkl_len _ _)) (by omega) | (first | omega | (simp; omega) | (simp; done) | (simp_all; omega) | grind) | exact Nat.le_trans (upM_len _ _) (by omega) | exact Nat.le_trans (Nat.le_trans (lk_len (by assumption) (by assumption)) (flt_len _ _)) (by omega))) (Hp.le.refl _) ?_)
  clear E a S; rintro a v_9 w M_8 hM_8 hv_9 S E
  replace h0 := h0.le RP2_mono hM_8
  replace hw1 := hw1.le hM_8
  replace hb_1 := hM_8.2 _ _ hb_1
  replace hv_4 := hv_4.le hM_8
  replace hv_6 := hv_6.le hM_8
  refine ⟨fun x hq hb => (agree_le (hM_3.trans (hM_5.trans hM_8)) S.imm), ?_⟩
  refine D_v E rfl rfl rfl (fun w hC => (R_assign E rfl)) ?_
  clear E a; intro a E
  refine D_end (NoP_n ?_)
  refine T_n ?_
  refine WP_ret ?_
  exact F_ret1 E Try.results67 rfl ⟨_, rfl, M_8, (hM_2.trans (hM_3.trans (hM_5.trans hM_8))), (by rw [show (entE ((mkE l0).filter (fun e : Int × Int => predAt pk1 pn1 pl1 e.1 e.2))) = (srtK Prod.fst q_7) from by (exact (lk_srt (by assumption) (by assumption)).symm)]; exact hv_9), S⟩

set_option maxRecDepth 100000 in
set_option maxHeartbeats 4000000 in
theorem lo_OmitBy {M : Hp} {m0 : Value} {q0 : List (Int × Int)} (hm0 : RdM M m0 (encE (Value.int .i64) q0)){v1 : Value} {f1 : Int → Int → Bool} (h1 : PF2B Try.prog v1 M f1) :
    Pu Try.prog (.func (.func 138) #[] #[]) M [m0, v1] (fun r M' => ∃ q_, RdM M' r (encE (Value.int .i64) q_) ∧ lkE q_ = lkE ((q0).filter (fun e : Int × Int => !f1 e.1 e.2))) := by
  refine Pu_enter Try.func138 rfl Try.ntmps138 rfl Try.call138 ?_
  intro a w M1 H hM1 S E
  replace hm0 := hm0.le hM1
  replace h1 := h1.le hM1
  have hnq : (q0.map Prod.fst).Nodup := keys_encE (Value.int .i64) q0 ▸ hm0.nodup
  refine WP_seq ?_
  refine WP_region ?_
  refine S_v E rfl (R_assign E rfl) rfl ?_
  clear E a; intro a E
  refine WL_nil ?_
  refine T_n ?_
  refine WP_seq ?_
  refine WP_region ?_
  refine S_x (X_makeMap E S rfl ?_)
  clear E a S; rintro a w b_1 E S
  replace S : St w M1 (OwnE (Value.int .i64) b_1 ([] : List (Int × Int)) :: _) := S
  refine S_v E rfl (R_assign E rfl) rfl ?_
  clear E a; intro a E
  refine WL_nil ?_
  refine T_n ?_
  refine WP_seq ?_
  refine WP_seq ?_
  refine WP_region ?_
  refine S_v E rfl (R_move E rfl) rfl ?_
  clear E a; intro a E
  refine S_x (X_range E S rfl MT103 hm0 rfl ?_)
  clear E a S; rintro a w i_2 es_3 ck_4 E hf_5 S
  replace S : St w M1 (ItO m0 es_3 ck_4 i_2 (encE (Value.int .i64) ([] : List (Int × Int))) :: _) := S
  refine WL_nil ?_
  refine T_n ?_
  refine WP_block ?_
  replace S := S.front1
  replace S := S.front1
  replace S := S.front1
  replace S := S.reM (L' := (encE (Value.int .i64) (mkE ([].filter (fun e : Int × Int => !f1 e.1 e.2))))) (congrArg (encE (Value.int .i64)) (show ([] : List (Int × Int)) = mkE ([].filter (fun e : Int × Int => !f1 e.1 e.2)) by first | rfl | (simp [mkE]; done) | (refine flm_y (F := fun e : Int × Int => !f1 e.1 e.2) ?_; first | assumption | (simp_all; done)) | (refine flm_n (F := fun e : Int × Int => !f1 e.1 e.2) ?_; first | assumption | (simp_all; done))))
  replace S := S.front1
  replace S := S.reIt (p' := (encE (Value.int .i64) [])) (congrArg (encE (Value.int .i64)) (show ([] : List (Int × Int)) = [] by first | rfl | (simp [mkE]; done) | (refine flm_y (F := fun e : Int × Int => !f1 e.1 e.2) ?_; first | assumption | (simp_all; done)) | (refine flm_n (F := fun e : Int × Int => !f1 e.1 e.2) ?_; first | assumption | (simp_all; done))))
  refine WP_loop (γ := List (Int × Int)) (fun (p : List (Int × Int)) a w => ∃ (M_6 : Hp), Hp.le M1 M_6 ∧ St w M_6 (ItO m0 es_3 ck_4 i_2 (encE (Value.int .i64) p) :: OwnE (Value.int .i64) b_1 (mkE (p.filter (fun e : Int × Int => !f1 e.1 e.2))) :: H) ∧ Env a 25 [] [(1, v1), (5, .map (some b_1)), (10, .pointer (some ⟨i_2, 0, none⟩))] ∧ ((p.map Prod.fst).Nodup) ∧ (∀ z ∈ p, z ∈ q0) ∧ (p.length ≤ q0.length)) (fun p => q0.length - p.length) [] ⟨M1, Hp.le.refl _, S, E.keep ⟨rfl, rfl, rfl, trivial⟩, (by simp), (by simp), (by simp)⟩ ?_
  try clear E
  try clear S
  try clear a
  try clear w
  rintro p a w ⟨M_6, hM_6, S, E, hL0_0, hL0_1, hL0_2⟩
  replace hm0 := hm0.le hM_6
  replace h1 := h1.le hM_6
  replace hf_5 := hf_5.le hM_6
  refine WP_seq ?_
  refine WP_region ?_
  refine S_x (X_nextE (vf := (Value.int .i64)) E S rfl hf_5 rfl (by assumption) (by assumption) ?_ ?_)
  · clear E a S; rintro a E hpm_7 S
    refine S_v E rfl (R_extract E rfl rfl) rfl ?_
    clear E a; intro a E
    refine WL_nil ?_
    refine T_n ?_
    refine WP_seq ?_
    refine WP_condF E rfl rfl ?_
    refine WP_exit ?_
    refine T_x ?_
    refine T_x ?_
    refine B_x ?_
    refine T_n ?_
    refine WP_seq ?_
    refine WP_region ?_
    refine S_v E rfl (R_move E rfl) rfl ?_
    clear E a; intro a E
    refine S_v E rfl (R_assign E rfl) rfl ?_
    clear E a; intro a E
    refine WL_nil ?_
    refine T_n ?_
    refine WP_ret ?_
    replace S := S.front1
    have S0 := S; clear S
    obtain ⟨M_8, hM_8, hm_9, S⟩ := S0.freezeM
    clear S0
    replace hm0 := hm0.le hM_8
    replace h1 := h1.le hM_8
    replace hf_5 := hf_5.le hM_8
    exact F_ret1 E Try.results138 rfl ⟨_, rfl, M_8, (hM_6.trans hM_8), ⟨_, hm_9, by (exact flm_k hnq (by assumption))⟩, S.drop⟩
  · clear E a S w; rintro a w k_10 u_12 E hk_11 hk_11n hk_11l S
    refine S_v E rfl (R_extract E rfl rfl) rfl ?_
    clear E a; intro a E
    refine WL_nil ?_
    refine T_n ?_
    refine WP_seq ?_
    refine WP_condT E rfl rfl ?_
    refine WP_skip ?_
    refine T_n ?_
    refine WP_block ?_
    refine WP_seq ?_
    refine WP_region ?_
    refine S_v E rfl (R_entry (k := k_10) (v := .int .i64 u_12) E (by have S1 := S; simp only [encE, List.map_append, List.map_cons, List.map_nil] at S1; exact S1) hf_5 rfl) rfl ?_
    clear E a; intro a E
    refine S_v E rfl (R_extract E rfl rfl) rfl ?_
    clear E a; intro a E
    refine S_v E rfl (R_extract E rfl rfl) rfl ?_
    clear E a; intro a E
    refine S_v E rfl (R_assign E rfl) rfl ?_
    clear E a; intro a E
    refine S_v E rfl (R_assign E rfl) rfl ?_
    clear E a; intro a E
    refine WL_nil ?_
    refine T_n ?_
    refine WP_seq ?_
    refine WP_region ?_
    refine S_v E rfl (R_move E rfl) rfl ?_
    clear E a; intro a E
    refine S_v E rfl (R_move E rfl) rfl ?_
    clear E a; intro a E
    refine S_v E rfl (R_move E rfl) rfl ?_
    clear E a; intro a E
    refine S_x (X_pu E S rfl rfl rfl (h1.2 k_10 u_12) (Hp.le.refl _) ?_)
    clear E a S; rintro a _ w M_13 hM_13 rfl S E
    replace hm0 := hm0.le hM_13
    replace h1 := h1.le hM_13
    replace hf_5 := hf_5.le hM_13
    refine S_v E rfl (R_not E rfl) rfl ?_
    clear E a; intro a E
    refine WL_nil ?_
    refine T_n ?_
    refine WP_cond E rfl (fun hc_14 => ?_) (fun hc_14 => ?_)
    · refine WP_region ?_
      refine S_v E rfl (R_move E rfl) rfl ?_
      clear E a; intro a E
      refine S_v E rfl (R_move E rfl) rfl ?_
      clear E a; intro a E
      refine S_v E rfl (R_move E rfl) rfl ?_
      clear E a; intro a E
      replace S := S.front1
      refine S_x0 (X_updateE (vf := (Value.int .i64)) (u := u_12) E S MT103 rfl rfl rfl ?_)
      clear E a S; rintro a w E S
      refine WL_nil ?_
      refine B_n ?_
      refine T_n ?_
      replace S := S.front1
      replace S := S.front1
      replace S := S.reM (L' := (encE (Value.int .i64) (mkE ((p ++ [(k_10, u_12)]).filter (fun e : Int × Int => !f1 e.1 e.2))))) (congrArg (encE (Value.int .i64)) (show putK (mkE (p.filter (fun e : Int × Int => !f1 e.1 e.2))) k_10 u_12 = mkE ((p ++ [(k_10, u_12)]).filter (fun e : Int × Int => !f1 e.1 e.2)) by first | rfl | (simp [mkE]; done) | (refine flm_y (F := fun e : Int × Int => !f1 e.1 e.2) ?_; first | assumption | (simp_all; done)) | (refine flm_n (F := fun e : Int × Int => !f1 e.1 e.2) ?_; first | assumption | (simp_all; done))))
      replace S := S.front1
      replace S := S.reIt (p' := (encE (Value.int .i64) (p ++ [(k_10, u_12)]))) (congrArg (encE (Value.int .i64)) (show p ++ [(k_10, u_12)] = (p ++ [(k_10, u_12)]) by first | rfl | (simp [mkE]; done) | (refine flm_y (F := fun e : Int × Int => !f1 e.1 e.2) ?_; first | assumption | (simp_all; done)) | (refine flm_n (F := fun e : Int × Int => !f1 e.1 e.2) ?_; first | assumption | (simp_all; done))))
      exact ⟨(p ++ [(k_10, u_12)]), ⟨M_13, (hM_6.trans hM_13), S, E.keep ⟨rfl, rfl, rfl, trivial⟩, (by exact snocNk (by assumption) (by assumption)), (by exact snocSk (by assumption) (by assumption)), (by simp; omega)⟩, (by simp; omega)⟩
    · refine WP_skip ?_
      refine B_n ?_
      refine T_n ?_
      replace S := S.front1
      replace S := S.reM (L' := (encE (Value.int .i64) (mkE ((p ++ [(k_10, u_12)]).filter (fun e : Int × Int => !f1 e.1 e.2))))) (congrArg (encE (Value.int .i64)) (show mkE (p.filter (fun e : Int × Int => !f1 e.1 e.2)) = mkE ((p ++ [(k_10, u_12)]).filter (fun e : Int × Int => !f1 e.1 e.2)) by first | rfl | (simp [mkE]; done) | (refine flm_y (F := fun e : Int × Int => !f1 e.1 e.2) ?_; first | assumption | (simp_all; done)) | (refine flm_n (F := fun e : Int × Int => !f1 e.1 e.2) ?_; first | assumption | (simp_all; done))))
      replace S := S.front1
      replace S := S.reIt (p' := (encE (Value.int .i64) (p ++ [(k_10, u_12)]))) (congrArg (encE (Value.int .i64)) (show p ++ [(k_10, u_12)] = (p ++ [(k_10, u_12)]) by first | rfl | (simp [mkE]; done) | (refine flm_y (F := fun e : Int × Int => !f1 e.1 e.2) ?_; first | assumption | (simp_all; done)) | (refine flm_n (F := fun e : Int × Int => !f1 e.1 e.2) ?_; first | assumption | (simp_all; done))))
      exact ⟨(p ++ [(k_10, u_12)]), ⟨M_13, (hM_6.trans hM_13), S, E.keep ⟨rfl, rfl, rfl, trivial⟩, (by exact snocNk (by assumption) (by assumption)), (by exact snocSk (by assumption) (by assumption)), (by simp; omega)⟩, (by simp; omega)⟩

set_option maxRecDepth 100000 in
set_option maxHeartbeats 4000000 in
theorem impl_OmitBy {M : Hp} {v0 : Value} {l0 : List (Int × Int)} (h0 : RdS 2 RP2 M v0 l0){pk1 pn1 : Int} {w1 : Value} {pl1 : List Int} (hw1 : RdI M w1 pl1) (gn1 : -9223372036854775808 ≤ pn1 ∧ pn1 ≤ 9223372036854775807) (hb : l0.length ≤ 1000000000000) :
    Pu Try.prog (.func (.func 68) #[] #[]) M [v0, .agg #[.int .i64 pk1, .int .i64 pn1, w1]] (fun r M' => RdS 2 RP2 M' r (entE ((mkE l0).filter (fun e : Int × Int => !predAt pk1 pn1 pl1 e.1 e.2)))) := by
  refine Pu_enter Try.func68 rfl Try.ntmps68 rfl Try.call68 ?_
  intro a w M1 H hM1 S E
  replace h0 := h0.le RP2_mono hM1
  replace hw1 := hw1.le hM1
  have b0 := h0.bound
  refine WP_seq ?_
  refine WP_region ?_
  refine S_x (X_box (cs := #[.int .i64 pk1, .int .i64 pn1, w1]) E S rfl rfl rfl ?_)
  clear E a S; rintro a w b_1 E S
  obtain ⟨M_2, hM_2, hb_1, S⟩ := S.freezeB
  replace h0 := h0.le RP2_mono hM_2
  replace hw1 := hw1.le hM_2
  refine S_v E rfl (R_assign E rfl) rfl ?_
  clear E a; intro a E
  refine WL_nil ?_
  refine T_n ?_
  refine WP_seq ?_
  have hb_1k2 := hb_1
  replace S := S.mono_heap (w' := World.drew _) rfl
  refine WP_drawn (C := fun x w => agree M_2 w) (bf := (fun i => [])) [0, 2, 3, 6] [0, 2, 3, 1, 4, 5, 6] Try.mixed (by kernel_rfl) (fun x hq => S.imm) ?_
  refine D_v E rfl rfl rfl (fun w hC => (R_move E rfl)) ?_
  clear E a; intro a E
  refine D_v E rfl rfl rfl (fun w hC => (R_loadGM E rfl (Try.isAgg54 _) (Try.sizeOf54 _) hC hb_1k2)) ?_
  clear E a; intro a E
  refine D_v E rfl rfl rfl (fun w hC => (R_makeFunc E rfl rfl)) ?_
  clear E a; intro a E
  refine D_x rfl rfl rfl (X_pu E S rfl rfl rfl (impl_mapOf h0) (Hp.le.refl _) ?_)
  clear E a S; rintro a v_4 w M_3 hM_3 hv_4 S E
  replace h0 := h0.le RP2_mono hM_3
  replace hw1 := hw1.le hM_3
  replace hb_1 := hM_3.2 _ _ hb_1
  refine ⟨fun x hq hb => (agree_le hM_3 S.imm), ?_⟩
  refine D_x rfl rfl rfl (X_pu E S rfl rfl rfl (lo_OmitBy hv_4 ⟨rfl, fun zx1 zx2 => Pred_at (x1 := zx1) (x2 := zx2) hw1 (by omega)⟩) (Hp.le.refl _) ?_)
  clear E a S; rintro a v_6 w M_5 hM_5 ⟨q_7, hv_6, hkq_7⟩ S E
  replace h0 := h0.le RP2_mono hM_5
  replace hw1 := hw1.le hM_5
  replace hb_1 := hM_5.2 _ _ hb_1
  replace hv_4 := hv_4.le hM_5
  refine ⟨fun x hq hb => (agree_le (hM_3.trans hM_5) S.imm), ?_⟩
  refine D_x rfl rfl rfl (X_pu E S rfl rfl rfl (impl_pairs hv_6 (by first | omega | (exact bigE _ l0 (by first | (rw [ixm_len]; exact Nat.le_refl _) | exact kpix_len _ _ _ | (rw [List.length_map]; exact Nat.le_refl _)) (by omega)) | exact Nat.le_trans (mkE_len _) (by omega) | (exact Nat.le_trans (lk_len (by assumption) (by assumption)) (by first | omega | exact Nat.le_trans (fl_mk _ _) (by omega))) | exact Nat.le_trans (mk_perm_len (by assumption)) (by omega) | exact Nat.le_trans (Nat.le_trans (lk_len (by assumption) (by assumption)) (mkl_len _ _)) (by omega) | (first | omega | (simp; omega) | (simp; done) | (simp_all; omega) | grind) | exact Nat.le_trans (upM_len _ _) (by omega) | exact Nat.le_trans (Nat.le_trans (lk_len (by assumption) (by assumption)) (flt_len _ _)) (by omega))) (Hp.le.refl _) ?_)
  clear E a S; rintro a v_9 w M_8 hM_8 hv_9 S E
  replace h0 := h0.le RP2_mono hM_8
  replace hw1 := hw1.le hM_8
  replace hb_1 := hM_8.2 _ _ hb_1
  replace hv_4 := hv_4.le hM_8
  replace hv_6 := hv_6.le hM_8
  refine ⟨fun x hq hb => (agree_le (hM_3.trans (hM_5.trans hM_8)) S.imm), ?_⟩
  refine D_v E rfl rfl rfl (fun w hC => (R_assign E rfl)) ?_
  clear E a; intro a E
  refine D_end (NoP_n ?_)
  refine T_n ?_
  refine WP_ret ?_
  exact F_ret1 E Try.results68 rfl ⟨_, rfl, M_8, (hM_2.trans (hM_3.trans (hM_5.trans hM_8))), (by rw [show (entE ((mkE l0).filter (fun e : Int × Int => !predAt pk1 pn1 pl1 e.1 e.2))) = (srtK Prod.fst q_7) from by (exact (lk_srt (by assumption) (by assumption)).symm)]; exact hv_9), S⟩

set_option maxRecDepth 100000 in
set_option maxHeartbeats 4000000 in
theorem lo_OmitByKeys {M : Hp} {m0 : Value} {q0 : List (Int × Int)} (hm0 : RdM M m0 (encE (Value.int .i64) q0)) {v1 : Value} {l1 : List Int} (h1 : RdI M v1 l1) :
    Pu Try.prog (.func (.func 139) #[] #[]) M [m0, v1] (fun r M' => ∃ q_, RdM M' r (encE (Value.int .i64) q_) ∧ lkE q_ = lkE ((q0).filter (fun e : Int × Int => !decide (e.1 ∈ l1)))) := by
  refine Pu_enter Try.func139 rfl Try.ntmps139 rfl Try.call139 ?_
  intro a w M1 H hM1 S E
  replace hm0 := hm0.le hM1
  replace h1 := h1.le hM1
  have hnq : (q0.map Prod.fst).Nodup := keys_encE (Value.int .i64) q0 ▸ hm0.nodup
  have b1 := h1.bound
  refine WP_seq ?_
  refine WP_region ?_
  refine S_v E rfl (R_assign E rfl) rfl ?_
  clear E a; intro a E
  refine WL_nil ?_
  refine T_n ?_
  refine WP_seq ?_
  refine WP_region ?_
  refine S_x (X_makeMap E S rfl ?_)
  clear E a S; rintro a w b_1 E S
  replace S : St w M1 (OwnE (Value.int .i64) b_1 ([] : List (Int × Int)) :: _) := S
  refine S_v E rfl (R_assign E rfl) rfl ?_
  clear E a; intro a E
  refine WL_nil ?_
  refine T_n ?_
  refine WP_seq ?_
  refine WP_seq ?_
  refine WP_region ?_
  refine S_v E rfl (R_move E rfl) rfl ?_
  clear E a; intro a E
  refine S_x (X_range E S rfl MT103 hm0 rfl ?_)
  clear E a S; rintro a w i_2 es_3 ck_4 E hf_5 S
  replace S : St w M1 (ItO m0 es_3 ck_4 i_2 (encE (Value.int .i64) ([] : List (Int × Int))) :: _) := S
  refine WL_nil ?_
  refine T_n ?_
  refine WP_block ?_
  replace S := S.front1
  replace S := S.front1
  replace S := S.front1
  replace S := S.reM (L' := (encE (Value.int .i64) (mkE []))) (congrArg (encE (Value.int .i64)) (show ([] : List (Int × Int)) = mkE [] by first | rfl | (simp [mkE]; done) | exact mp_pair _ _ _))
  replace S := S.front1
  replace S := S.reIt (p' := (encE (Value.int .i64) [])) (congrArg (encE (Value.int .i64)) (show ([] : List (Int × Int)) = [] by first | rfl | (simp [mkE]; done) | exact mp_pair _ _ _))
  refine WP_loop (γ := List (Int × Int)) (fun (p : List (Int × Int)) a w => ∃ (M_6 : Hp), Hp.le M1 M_6 ∧ St w M_6 (ItO m0 es_3 ck_4 i_2 (encE (Value.int .i64) p) :: OwnE (Value.int .i64) b_1 (mkE p) :: H) ∧ Env a 32 [] [(1, v1), (5, .map (some b_1)), (11, .pointer (some ⟨i_2, 0, none⟩))] ∧ ((p.map Prod.fst).Nodup) ∧ (∀ z ∈ p, z ∈ q0) ∧ (p.length ≤ q0.length)) (fun p => q0.length - p.length) [] ⟨M1, Hp.le.refl _, S, E.keep ⟨rfl, rfl, rfl, trivial⟩, (by simp), (by simp), (by simp)⟩ ?_
  try clear E
  try clear S
  try clear a
  try clear w
  rintro p a w ⟨M_6, hM_6, S, E, hL0_0, hL0_1, hL0_2⟩
  replace hm0 := hm0.le hM_6
  replace h1 := h1.le hM_6
  replace hf_5 := hf_5.le hM_6
  refine WP_seq ?_
  refine WP_region ?_
  refine S_x (X_nextE (vf := (Value.int .i64)) E S rfl hf_5 rfl (by assumption) (by assumption) ?_ ?_)
  · clear E a S; rintro a E hpm_7 S
    refine S_v E rfl (R_extract E rfl rfl) rfl ?_
    clear E a; intro a E
    refine WL_nil ?_
    refine T_n ?_
    refine WP_seq ?_
    refine WP_condF E rfl rfl ?_
    refine WP_exit ?_
    refine T_x ?_
    refine T_x ?_
    refine B_x ?_
    refine T_n ?_
    refine WP_seq ?_
    refine WP_seq ?_
    refine WP_region ?_
    refine S_v E rfl (R_move E rfl) rfl ?_
    clear E a; intro a E
    refine S_v E rfl (R_lenV E rfl T22 h1.len) rfl ?_
    clear E a; intro a E
    refine S_v E rfl (R_move E rfl) rfl ?_
    clear E a; intro a E
    refine WL_nil ?_
    refine T_n ?_
    refine WP_block ?_
    replace S := S.front1
    replace S := S.reM (L' := (encE (Value.int .i64) (dlK (mkE p) (l1.take 0)))) (congrArg (encE (Value.int .i64)) (show mkE p = dlK (mkE p) (l1.take 0) by first | rfl | (simp [dlK]; done) | exact dlK_take (by assumption)))
    refine WP_loop (γ := Nat) (fun (k : Nat) a w => ∃ (M_8 : Hp), Hp.le M_6 M_8 ∧ St w M_8 (OwnE (Value.int .i64) b_1 (dlK (mkE p) (l1.take k)) :: ItO m0 es_3 ck_4 i_2 (encE (Value.int .i64) p) :: H) ∧ Env a 32 [] [(1, v1), (5, .map (some b_1)), (21, .int .i64 (((l1).length : Nat) : Int)), (22, .int .i64 ((k : Nat) : Int))] ∧ (k ≤ (l1).length)) (fun k => ((l1).length) - k) 0 ⟨M_6, Hp.le.refl _, S, E.keep ⟨rfl, rfl, rfl, rfl, trivial⟩, by ((try clear S); (try clear E); first | assumption | omega | rfl | (simp; done) | (simp_all; done) | (simp [List.take_add_one, *]; done) | grind [List.take_add_one])⟩ ?_
    try clear E
    try clear S
    try clear a
    try clear w
    rintro k a w ⟨M_8, hM_8, S, E, hL1_0⟩
    replace hm0 := hm0.le hM_8
    replace h1 := h1.le hM_8
    replace hf_5 := hf_5.le hM_8
    refine WP_seq ?_
    refine WP_region ?_
    refine S_v E rfl (R_lss E rfl rfl) rfl ?_
    clear E a; intro a E
    refine WL_nil ?_
    refine T_n ?_
    refine WP_seq ?_
    refine WP_cond E rfl (fun hc_9 => ?_) (fun hc_9 => ?_)
    · replace hc_9 := of_decide_eq_true hc_9
      refine WP_skip ?_
      refine T_n ?_
      refine WP_seq ?_
      refine WP_block ?_
      refine WP_seq ?_
      refine WP_region ?_
      refine S_v E rfl (R_move E rfl) rfl ?_
      clear E a; intro a E
      refine S_v E rfl (R_assign E rfl) rfl ?_
      clear E a; intro a E
      refine WL_nil ?_
      refine T_n ?_
      refine WP_region ?_
      refine S_v E rfl (R_move E rfl) rfl ?_
      clear E a; intro a E
      refine S_v E rfl (R_move E rfl) rfl ?_
      clear E a; intro a E
      refine S_v E rfl (R_move E rfl) rfl ?_
      clear E a; intro a E
      obtain ⟨x_10, hx_10⟩ : ∃ x, (l1)[k]? = some x := ⟨_, List.getElem?_eq_getElem (by first | omega | (simp; done) | (simp; omega) | (simp_all; omega))⟩
      obtain ⟨p_11, hp_11, qp_11⟩ := h1.at hx_10
      refine S_v E rfl (R_idx E rfl rfl T22 hp_11 rfl) rfl ?_
      clear E a; intro a E
      refine S_v E rfl (R_loadM E rfl Try.isAgg3 S.imm qp_11) rfl ?_
      clear E a; intro a E
      refine S_x0 (X_delete0E (vf := (Value.int .i64)) E S MT103 rfl rfl ?_)
      clear E a S; rintro a w E S
      refine WL_nil ?_
      refine B_n ?_
      refine T_n ?_
      refine WP_region ?_
      refine S_v E rfl (R_addx (m := ((k + 1 : Nat) : Int)) E rfl rfl (by omega) (by omega)) rfl ?_
      clear E a; intro a E
      refine S_v E rfl (R_move E rfl) rfl ?_
      clear E a; intro a E
      refine WL_nil ?_
      refine T_n ?_
      replace S := S.reM (L' := (encE (Value.int .i64) (dlK (mkE p) (l1.take (k + 1))))) (congrArg (encE (Value.int .i64)) (show delK (dlK (mkE p) (l1.take k)) x_10 = dlK (mkE p) (l1.take (k + 1)) by first | rfl | (simp [dlK]; done) | exact dlK_take (by assumption)))
      exact ⟨k + 1, ⟨M_8, hM_8, S, E.keep ⟨rfl, rfl, rfl, rfl, trivial⟩, by ((try clear S); (try clear E); first | assumption | omega | rfl | (simp; done) | (simp_all; done) | (simp [List.take_add_one, *]; done) | grind [List.take_add_one])⟩, by omega⟩
    · replace hc_9 := of_decide_eq_false hc_9
      refine WP_exit ?_
      refine T_x ?_
      refine T_x ?_
      refine B_x ?_
      refine T_n ?_
      refine WP_seq ?_
      refine WP_region ?_
      refine S_v E rfl (R_move E rfl) rfl ?_
      clear E a; intro a E
      refine S_v E rfl (R_assign E rfl) rfl ?_
      clear E a; intro a E
      refine WL_nil ?_
      refine T_n ?_
      refine WP_ret ?_
      have S0 := S; clear S
      obtain ⟨M_12, hM_12, hm_13, S⟩ := S0.freezeM
      clear S0
      replace hm0 := hm0.le hM_12
      replace h1 := h1.le hM_12
      replace hf_5 := hf_5.le hM_12
      exact F_ret1 E Try.results139 rfl ⟨_, rfl, M_12, (hM_6.trans (hM_8.trans hM_12)), ⟨_, hm_13, by (rw [List.take_of_length_le (by omega)]; exact dl_lk hnq (by assumption) l1)⟩, S.drop⟩
  · clear E a S w; rintro a w k_14 u_16 E hk_15 hk_15n hk_15l S
    refine S_v E rfl (R_extract E rfl rfl) rfl ?_
    clear E a; intro a E
    refine WL_nil ?_
    refine T_n ?_
    refine WP_seq ?_
    refine WP_condT E rfl rfl ?_
    refine WP_skip ?_
    refine T_n ?_
    refine WP_block ?_
    refine WP_seq ?_
    refine WP_region ?_
    refine S_v E rfl (R_entry (k := k_14) (v := .int .i64 u_16) E (by have S1 := S; simp only [encE, List.map_append, List.map_cons, List.map_nil] at S1; exact S1) hf_5 rfl) rfl ?_
    clear E a; intro a E
    refine S_v E rfl (R_extract E rfl rfl) rfl ?_
    clear E a; intro a E
    refine S_v E rfl (R_extract E rfl rfl) rfl ?_
    clear E a; intro a E
    refine S_v E rfl (R_assign E rfl) rfl ?_
    clear E a; intro a E
    refine S_v E rfl (R_assign E rfl) rfl ?_
    clear E a; intro a E
    refine WL_nil ?_
    refine T_n ?_
    refine WP_region ?_
    refine S_v E rfl (R_move E rfl) rfl ?_
    clear E a; intro a E
    refine S_v E rfl (R_move E rfl) rfl ?_
    clear E a; intro a E
    refine S_v E rfl (R_move E rfl) rfl ?_
    clear E a; intro a E
    replace S := S.front1
    refine S_x0 (X_updateE (vf := (Value.int .i64)) (u := u_16) E S MT103 rfl rfl rfl ?_)
    clear E a S; rintro a w E S
    refine WL_nil ?_
    refine B_n ?_
    refine T_n ?_
    replace S := S.front1
    replace S := S.front1
    replace S := S.reM (L' := (encE (Value.int .i64) (mkE (p ++ [(k_14, u_16)])))) (congrArg (encE (Value.int .i64)) (show putK (mkE p) k_14 u_16 = mkE (p ++ [(k_14, u_16)]) by first | rfl | (simp [mkE]; done) | exact mp_pair _ _ _))
    replace S := S.front1
    replace S := S.reIt (p' := (encE (Value.int .i64) (p ++ [(k_14, u_16)]))) (congrArg (encE (Value.int .i64)) (show p ++ [(k_14, u_16)] = (p ++ [(k_14, u_16)]) by first | rfl | (simp [mkE]; done) | exact mp_pair _ _ _))
    exact ⟨(p ++ [(k_14, u_16)]), ⟨M_6, hM_6, S, E.keep ⟨rfl, rfl, rfl, trivial⟩, (by exact snocNk (by assumption) (by assumption)), (by exact snocSk (by assumption) (by assumption)), (by simp; omega)⟩, (by simp; omega)⟩

set_option maxRecDepth 100000 in
set_option maxHeartbeats 4000000 in
theorem impl_OmitByKeys {M : Hp} {v0 : Value} {l0 : List (Int × Int)} (h0 : RdS 2 RP2 M v0 l0) {v1 : Value} {l1 : List Int} (h1 : RdI M v1 l1) (hb : l0.length ≤ 1000000000000) :
    Pu Try.prog (.func (.func 69) #[] #[]) M [v0, v1] (fun r M' => RdS 2 RP2 M' r (entE ((mkE l0).filter (fun e : Int × Int => !decide (e.1 ∈ l1))))) := by
  refine Pu_enter Try.func69 rfl Try.ntmps69 rfl Try.call69 ?_
  intro a w M1 H hM1 S E
  replace h0 := h0.le RP2_mono hM1
  replace h1 := h1.le hM1
  have b0 := h0.bound
  have b1 := h1.bound
  refine WP_seq ?_
  refine WP_region ?_
  refine S_v E rfl (R_assign E rfl) rfl ?_
  clear E a; intro a E
  refine WL_nil ?_
  refine T_n ?_
  refine WP_seq ?_
  refine WP_region ?_
  refine S_v E rfl (R_move E rfl) rfl ?_
  clear E a; intro a E
  refine S_x (X_pu E S rfl rfl rfl (impl_mapOf h0) (Hp.le.refl _) ?_)
  clear E a S; rintro a v_2 w M_1 hM_1 hv_2 S E
  replace h0 := h0.le RP2_mono hM_1
  replace h1 := h1.le hM_1
  refine S_v E rfl (R_move E rfl) rfl ?_
  clear E a; intro a E
  refine S_x (X_pu E S rfl rfl rfl (lo_OmitByKeys hv_2 h1) (Hp.le.refl _) ?_)
  clear E a S; rintro a v_4 w M_3 hM_3 ⟨q_5, hv_4, hkq_5⟩ S E
  replace h0 := h0.le RP2_mono hM_3
  replace h1 := h1.le hM_3
  replace hv_2 := hv_2.le hM_3
  refine S_x (X_pu E S rfl rfl rfl (impl_pairs hv_4 (by first | omega | (exact bigE _ l0 (by first | (rw [ixm_len]; exact Nat.le_refl _) | exact kpix_len _ _ _ | (rw [List.length_map]; exact Nat.le_refl _)) (by omega)) | exact Nat.le_trans (mkE_len _) (by omega) | (exact Nat.le_trans (lk_len (by assumption) (by assumption)) (by first | omega | exact Nat.le_trans (fl_mk _ _) (by omega))) | exact Nat.le_trans (mk_perm_len (by assumption)) (by omega) | exact Nat.le_trans (Nat.le_trans (lk_len (by assumption) (by assumption)) (mkl_len _ _)) (by omega) | (first | omega | (simp; omega) | (simp; done) | (simp_all; omega) | grind) | exact Nat.le_trans (upM_len _ _) (by omega) | exact Nat.le_trans (Nat.le_trans (lk_len (by assumption) (by assumption)) (flt_len _ _)) (by omega))) (Hp.le.refl _) ?_)
  clear E a S; rintro a v_7 w M_6 hM_6 hv_7 S E
  replace h0 := h0.le RP2_mono hM_6
  replace h1 := h1.le hM_6
  replace hv_2 := hv_2.le hM_6
  replace hv_4 := hv_4.le hM_6
  refine S_v E rfl (R_assign E rfl) rfl ?_
  clear E a; intro a E
  refine WL_nil ?_
  refine T_n ?_
  refine WP_ret ?_
  exact F_ret1 E Try.results69 rfl ⟨_, rfl, M_6, (hM_1.trans (hM_3.trans hM_6)), (by rw [show (entE ((mkE l0).filter (fun e : Int × Int => !decide (e.1 ∈ l1)))) = (srtK Prod.fst q_5) from by (exact (lk_srt (by assumption) (by assumption)).symm)]; exact hv_7), S⟩

set_option maxRecDepth 100000 in
set_option maxHeartbeats 4000000 in
theorem lo_Keyify {M : Hp} {v0 : Value} {l0 : List Int} (h0 : RdI M v0 l0) :
    Sp Try.prog (.func (.func 172) #[] #[]) M [v0] [] (fun r M' C' => ∃ b, r = .map (some b) ∧ C' = [OwnS b (keyL l0)]) := by
  refine Sp_enter Try.func172 rfl Try.ntmps172 rfl Try.call172 ?_
  intro a w M1 H hM1 S E
  replace h0 := h0.le hM1
  have b0 := h0.bound
  refine WP_seq ?_
  refine WP_region ?_
  refine S_v E rfl (R_assign E rfl) rfl ?_
  clear E a; intro a E
  refine WL_nil ?_
  refine T_n ?_
  refine WP_seq ?_
  refine WP_region ?_
  refine S_v E rfl (R_move E rfl) rfl ?_
  clear E a; intro a E
  refine S_v E rfl (R_lenV E rfl T22 h0.len) rfl ?_
  clear E a; intro a E
  refine S_x (X_makeMapR E S rfl MT140 rfl ?_)
  clear E a S; rintro a w b_1 E S
  replace S : St w M1 (OwnS b_1 ([] : List Int) :: _) := S
  refine S_v E rfl (R_assign E rfl) rfl ?_
  clear E a; intro a E
  refine WL_nil ?_
  refine T_n ?_
  refine WP_seq ?_
  refine WP_seq ?_
  refine WP_region ?_
  refine S_v E rfl (R_move E rfl) rfl ?_
  clear E a; intro a E
  refine S_v E rfl (R_lenV E rfl T22 h0.len) rfl ?_
  clear E a; intro a E
  refine S_v E rfl (R_move E rfl) rfl ?_
  clear E a; intro a E
  refine WL_nil ?_
  refine T_n ?_
  refine WP_block ?_
  replace S := S.reM (L' := (Sl.encS (keyL (l0.take 0)))) (congrArg Sl.encS (show ([] : List Int) = keyL (l0.take 0) by first | (simp [keyL]; done) | exact (keyL_succ (by assumption)).symm))
  refine WP_loop (γ := Nat) (fun (k : Nat) a w => ∃ (M_2 : Hp), Hp.le M1 M_2 ∧ St w M_2 (OwnS b_1 (keyL (l0.take k)) :: H) ∧ Env a 21 [] [(0, v0), (3, .map (some b_1)), (9, .int .i64 (((l0).length : Nat) : Int)), (10, .int .i64 ((k : Nat) : Int))] ∧ (k ≤ (l0).length)) (fun k => ((l0).length) - k) 0 ⟨M1, Hp.le.refl _, S, E.keep ⟨rfl, rfl, rfl, rfl, trivial⟩, by ((try clear S); (try clear E); first | assumption | omega | rfl | (simp; done) | (simp_all; done) | (simp [List.take_add_one, *]; done) | grind [List.take_add_one])⟩ ?_
  try clear E
  try clear S
  try clear a
  try clear w
  rintro k a w ⟨M_2, hM_2, S, E, hL0_0⟩
  replace h0 := h0.le hM_2
  refine WP_seq ?_
  refine WP_region ?_
  refine S_v E rfl (R_lss E rfl rfl) rfl ?_
  clear E a; intro a E
  refine WL_nil ?_
  refine T_n ?_
  refine WP_seq ?_
  refine WP_cond E rfl (fun hc_3 => ?_) (fun hc_3 => ?_)
  · replace hc_3 := of_decide_eq_true hc_3
    refine WP_skip ?_
    refine T_n ?_
    refine WP_seq ?_
    refine WP_block ?_
    refine WP_seq ?_
    refine WP_region ?_
    refine S_v E rfl (R_move E rfl) rfl ?_
    clear E a; intro a E
    refine S_v E rfl (R_assign E rfl) rfl ?_
    clear E a; intro a E
    refine WL_nil ?_
    refine T_n ?_
    refine WP_region ?_
    refine S_v E rfl (R_move E rfl) rfl ?_
    clear E a; intro a E
    refine S_v E rfl (R_move E rfl) rfl ?_
    clear E a; intro a E
    refine S_v E rfl (R_move E rfl) rfl ?_
    clear E a; intro a E
    obtain ⟨x_4, hx_4⟩ : ∃ x, (l0)[k]? = some x := ⟨_, List.getElem?_eq_getElem (by first | omega | (simp; done) | (simp; omega) | (simp_all; omega))⟩
    obtain ⟨p_5, hp_5, qp_5⟩ := h0.at hx_4
    refine S_v E rfl (R_idx E rfl rfl T22 hp_5 rfl) rfl ?_
    clear E a; intro a E
    refine S_v E rfl (R_loadM E rfl Try.isAgg3 S.imm qp_5) rfl ?_
    clear E a; intro a E
    refine S_v E rfl (R_build (u := .agg #[]) (vs := []) E rfl (fun w => FB141__  w)) rfl ?_
    clear E a; intro a E
    refine S_x0 (X_updateS E S MT140 rfl rfl rfl ?_)
    clear E a S; rintro a w E S
    refine WL_nil ?_
    refine B_n ?_
    refine T_n ?_
    refine WP_region ?_
    refine S_v E rfl (R_addx (m := ((k + 1 : Nat) : Int)) E rfl rfl (by omega) (by omega)) rfl ?_
    clear E a; intro a E
    refine S_v E rfl (R_move E rfl) rfl ?_
    clear E a; intro a E
    refine WL_nil ?_
    refine T_n ?_
    replace S := S.reM (L' := (Sl.encS (keyL (l0.take (k + 1))))) (congrArg Sl.encS (show addS (keyL (l0.take k)) x_4 = keyL (l0.take (k + 1)) by first | (simp [keyL]; done) | exact (keyL_succ (by assumption)).symm))
    exact ⟨k + 1, ⟨M_2, hM_2, S, E.keep ⟨rfl, rfl, rfl, rfl, trivial⟩, by ((try clear S); (try clear E); first | assumption | omega | rfl | (simp; done) | (simp_all; done) | (simp [List.take_add_one, *]; done) | grind [List.take_add_one])⟩, by omega⟩
  · replace hc_3 := of_decide_eq_false hc_3
    refine WP_exit ?_
    refine T_x ?_
    refine T_x ?_
    refine B_x ?_
    refine T_n ?_
    refine WP_seq ?_
    refine WP_region ?_
    refine S_v E rfl (R_move E rfl) rfl ?_
    clear E a; intro a E
    refine S_v E rfl (R_assign E rfl) rfl ?_
    clear E a; intro a E
    refine WL_nil ?_
    refine T_n ?_
    refine WP_ret ?_
    replace S := S.reM (L' := (Sl.encS (keyL l0))) (congrArg Sl.encS (show keyL (l0.take k) = keyL l0 by (rw [List.take_of_length_le (by omega)])))
    exact F_ret1 E Try.results172 rfl ⟨_, rfl, M_2, _, hM_2, ⟨_, rfl, rfl⟩, S⟩

set_option maxRecDepth 100000 in
set_option maxHeartbeats 4000000 in
theorem lo_PickByValues {M : Hp} {m0 : Value} {q0 : List (Int × Int)} (hm0 : RdM M m0 (encE (Value.int .i64) q0)) {v1 : Value} {l1 : List Int} (h1 : RdI M v1 l1) :
    Pu Try.prog (.func (.func 140) #[] #[]) M [m0, v1] (fun r M' => ∃ q_, RdM M' r (encE (Value.int .i64) q_) ∧ lkE q_ = lkE ((q0).filter (fun e : Int × Int => decide (e.2 ∈ l1)))) := by
  refine Pu_enter Try.func140 rfl Try.ntmps140 rfl Try.call140 ?_
  intro a w M1 H hM1 S E
  replace hm0 := hm0.le hM1
  replace h1 := h1.le hM1
  have hnq : (q0.map Prod.fst).Nodup := keys_encE (Value.int .i64) q0 ▸ hm0.nodup
  have b1 := h1.bound
  refine WP_seq ?_
  refine WP_region ?_
  refine S_v E rfl (R_assign E rfl) rfl ?_
  clear E a; intro a E
  refine WL_nil ?_
  refine T_n ?_
  refine WP_seq ?_
  refine WP_region ?_
  refine S_x (X_makeMap E S rfl ?_)
  clear E a S; rintro a w b_1 E S
  replace S : St w M1 (OwnE (Value.int .i64) b_1 ([] : List (Int × Int)) :: _) := S
  refine S_v E rfl (R_assign E rfl) rfl ?_
  clear E a; intro a E
  refine WL_nil ?_
  refine T_n ?_
  refine WP_seq ?_
  refine WP_region ?_
  refine S_v E rfl (R_move E rfl) rfl ?_
  clear E a; intro a E
  refine S_x (X_sp (p := []) E S rfl rfl rfl (lo_Keyify h1) (Hp.le.refl _) ?_)
  clear E a S; rintro a _ w M_2 _ hM_2 ⟨v_3, rfl, rfl⟩ S E
  replace S : St w M_2 (OwnS v_3 (keyL l1) :: _) := S
  replace hm0 := hm0.le hM_2
  replace h1 := h1.le hM_2
  refine S_v E rfl (R_assign E rfl) rfl ?_
  clear E a; intro a E
  refine WL_nil ?_
  refine T_n ?_
  refine WP_seq ?_
  refine WP_seq ?_
  refine WP_region ?_
  refine S_v E rfl (R_move E rfl) rfl ?_
  clear E a; intro a E
  refine S_x (X_range E S rfl MT103 hm0 rfl ?_)
  clear E a S; rintro a w i_4 es_5 ck_6 E hf_7 S
  replace S : St w M_2 (ItO m0 es_5 ck_6 i_4 (encE (Value.int .i64) ([] : List (Int × Int))) :: _) := S
  refine WL_nil ?_
  refine T_n ?_
  refine WP_block ?_
  replace S := S.front2
  replace S := S.front1
  replace S := S.front1
  replace S := S.reM (L' := (encE (Value.int .i64) (mkE ([].filter (fun e : Int × Int => decide (e.2 ∈ l1)))))) (congrArg (encE (Value.int .i64)) (show ([] : List (Int × Int)) = mkE ([].filter (fun e : Int × Int => decide (e.2 ∈ l1))) by first | rfl | (simp [mkE]; done) | (refine flm_y (F := fun e : Int × Int => decide (e.2 ∈ l1)) ?_; first | assumption | (simp_all [mem_keyL]; done)) | (refine flm_n (F := fun e : Int × Int => decide (e.2 ∈ l1)) ?_; first | assumption | (simp_all [mem_keyL]; done))))
  replace S := S.front1
  replace S := S.reIt (p' := (encE (Value.int .i64) [])) (congrArg (encE (Value.int .i64)) (show ([] : List (Int × Int)) = [] by first | rfl | (simp [mkE]; done) | (refine flm_y (F := fun e : Int × Int => decide (e.2 ∈ l1)) ?_; first | assumption | (simp_all [mem_keyL]; done)) | (refine flm_n (F := fun e : Int × Int => decide (e.2 ∈ l1)) ?_; first | assumption | (simp_all [mem_keyL]; done))))
  refine WP_loop (γ := List (Int × Int)) (fun (p : List (Int × Int)) a w => ∃ (M_8 : Hp), Hp.le M_2 M_8 ∧ St w M_8 (ItO m0 es_5 ck_6 i_4 (encE (Value.int .i64) p) :: OwnE (Value.int .i64) b_1 (mkE (p.filter (fun e : Int × Int => decide (e.2 ∈ l1)))) :: OwnS v_3 (keyL l1) :: H) ∧ Env a 32 [] [(5, .map (some b_1)), (6, .map (some v_3)), (15, .pointer (some ⟨i_4, 0, none⟩))] ∧ ((p.map Prod.fst).Nodup) ∧ (∀ z ∈ p, z ∈ q0) ∧ (p.length ≤ q0.length)) (fun p => q0.length - p.length) [] ⟨M_2, Hp.le.refl _, S, E.keep ⟨rfl, rfl, rfl, trivial⟩, (by simp), (by simp), (by simp)⟩ ?_
  try clear E
  try clear S
  try clear a
  try clear w
  rintro p a w ⟨M_8, hM_8, S, E, hL0_0, hL0_1, hL0_2⟩
  replace hm0 := hm0.le hM_8
  replace h1 := h1.le hM_8
  replace hf_7 := hf_7.le hM_8
  refine WP_seq ?_
  refine WP_region ?_
  refine S_x (X_nextE (vf := (Value.int .i64)) E S rfl hf_7 rfl (by assumption) (by assumption) ?_ ?_)
  · clear E a S; rintro a E hpm_9 S
    refine S_v E rfl (R_extract E rfl rfl) rfl ?_
    clear E a; intro a E
    refine WL_nil ?_
    refine T_n ?_
    refine WP_seq ?_
    refine WP_condF E rfl rfl ?_
    refine WP_exit ?_
    refine T_x ?_
    refine T_x ?_
    refine B_x ?_
    refine T_n ?_
    refine WP_seq ?_
    refine WP_region ?_
    refine S_v E rfl (R_move E rfl) rfl ?_
    clear E a; intro a E
    refine S_v E rfl (R_assign E rfl) rfl ?_
    clear E a; intro a E
    refine WL_nil ?_
    refine T_n ?_
    refine WP_ret ?_
    replace S := S.front1
    have S0 := S; clear S
    obtain ⟨M_10, hM_10, hm_11, S⟩ := S0.freezeM
    clear S0
    replace hm0 := hm0.le hM_10
    replace h1 := h1.le hM_10
    replace hf_7 := hf_7.le hM_10
    exact F_ret1 E Try.results140 rfl ⟨_, rfl, M_10, (hM_2.trans (hM_8.trans hM_10)), ⟨_, hm_11, by (exact flm_k hnq (by assumption))⟩, S.drop.drop⟩
  · clear E a S w; rintro a w k_12 u_14 E hk_13 hk_13n hk_13l S
    refine S_v E rfl (R_extract E rfl rfl) rfl ?_
    clear E a; intro a E
    refine WL_nil ?_
    refine T_n ?_
    refine WP_seq ?_
    refine WP_condT E rfl rfl ?_
    refine WP_skip ?_
    refine T_n ?_
    refine WP_block ?_
    refine WP_seq ?_
    refine WP_region ?_
    refine S_v E rfl (R_entry (k := k_12) (v := .int .i64 u_14) E (by have S1 := S; simp only [encE, List.map_append, List.map_cons, List.map_nil] at S1; exact S1) hf_7 rfl) rfl ?_
    clear E a; intro a E
    refine S_v E rfl (R_extract E rfl rfl) rfl ?_
    clear E a; intro a E
    refine S_v E rfl (R_extract E rfl rfl) rfl ?_
    clear E a; intro a E
    refine S_v E rfl (R_assign E rfl) rfl ?_
    clear E a; intro a E
    refine S_v E rfl (R_assign E rfl) rfl ?_
    clear E a; intro a E
    refine WL_nil ?_
    refine T_n ?_
    refine WP_seq ?_
    refine WP_region ?_
    refine S_v E rfl (R_move E rfl) rfl ?_
    clear E a; intro a E
    refine S_v E rfl (R_move E rfl) rfl ?_
    clear E a; intro a E
    replace S := S.front2
    refine S_x (X_lookupS E S rfl MT140 rfl rfl ?_)
    clear E a S; rintro a w E S
    replace S : St w M_8 (OwnS v_3 (keyL l1) :: _) := S
    refine S_v E rfl (R_move E rfl) rfl ?_
    clear E a; intro a E
    refine S_v E rfl (R_extract E rfl rfl) rfl ?_
    clear E a; intro a E
    refine S_v E rfl (R_extract E rfl rfl) rfl ?_
    clear E a; intro a E
    refine S_x (X_alloc (cs := #[]) E S rfl Try.zeroValue141 rfl ?_)
    clear E a S; rintro a w b_15 E S
    refine S_x0 (X_storeG (us := []) E S rfl rfl (Try.sizeOf141 _) rfl (by intro u hu; cases hu) ?_)
    clear E a S; rintro a w E S
    replace S : St w M_8 (blk b_15 (.cells #[] 141) :: _) := S
    have S0 := S; clear S
    obtain ⟨M_16, hM_16, hb_17, S⟩ := S0.freezeB
    clear S0
    replace hm0 := hm0.le hM_16
    replace h1 := h1.le hM_16
    replace hf_7 := hf_7.le hM_16
    refine S_v E rfl (R_assign E rfl) rfl ?_
    clear E a; intro a E
    refine WL_nil ?_
    refine T_n ?_
    refine WP_seq ?_
    refine WP_region ?_
    refine S_v E rfl (R_move E rfl) rfl ?_
    clear E a; intro a E
    refine WL_nil ?_
    refine T_n ?_
    refine WP_cond E rfl (fun hc_18 => ?_) (fun hc_18 => ?_)
    · replace hc_18 := of_decide_eq_true hc_18
      refine WP_region ?_
      refine S_v E rfl (R_move E rfl) rfl ?_
      clear E a; intro a E
      refine S_v E rfl (R_move E rfl) rfl ?_
      clear E a; intro a E
      refine S_v E rfl (R_move E rfl) rfl ?_
      clear E a; intro a E
      replace S := S.front2
      refine S_x0 (X_updateE (vf := (Value.int .i64)) (u := u_14) E S MT103 rfl rfl rfl ?_)
      clear E a S; rintro a w E S
      refine WL_nil ?_
      refine B_n ?_
      refine T_n ?_
      replace S := S.front1
      replace S := S.front1
      replace S := S.front2
      replace S := S.front1
      replace S := S.reM (L' := (encE (Value.int .i64) (mkE ((p ++ [(k_12, u_14)]).filter (fun e : Int × Int => decide (e.2 ∈ l1)))))) (congrArg (encE (Value.int .i64)) (show putK (mkE (p.filter (fun e : Int × Int => decide (e.2 ∈ l1)))) k_12 u_14 = mkE ((p ++ [(k_12, u_14)]).filter (fun e : Int × Int => decide (e.2 ∈ l1))) by first | rfl | (simp [mkE]; done) | (refine flm_y (F := fun e : Int × Int => decide (e.2 ∈ l1)) ?_; first | assumption | (simp_all [mem_keyL]; done)) | (refine flm_n (F := fun e : Int × Int => decide (e.2 ∈ l1)) ?_; first | assumption | (simp_all [mem_keyL]; done))))
      replace S := S.front1
      replace S := S.reIt (p' := (encE (Value.int .i64) (p ++ [(k_12, u_14)]))) (congrArg (encE (Value.int .i64)) (show p ++ [(k_12, u_14)] = (p ++ [(k_12, u_14)]) by first | rfl | (simp [mkE]; done) | (refine flm_y (F := fun e : Int × Int => decide (e.2 ∈ l1)) ?_; first | assumption | (simp_all [mem_keyL]; done)) | (refine flm_n (F := fun e : Int × Int => decide (e.2 ∈ l1)) ?_; first | assumption | (simp_all [mem_keyL]; done))))
      exact ⟨(p ++ [(k_12, u_14)]), ⟨M_16, (hM_8.trans hM_16), S, E.keep ⟨rfl, rfl, rfl, trivial⟩, (by exact snocNk (by assumption) (by assumption)), (by exact snocSk (by assumption) (by assumption)), (by simp; omega)⟩, (by simp; omega)⟩
    · replace hc_18 := of_decide_eq_false hc_18
      refine WP_skip ?_
      refine B_n ?_
      refine T_n ?_
      replace S := S.front2
      replace S := S.front2
      replace S := S.front1
      replace S := S.reM (L' := (encE (Value.int .i64) (mkE ((p ++ [(k_12, u_14)]).filter (fun e : Int × Int => decide (e.2 ∈ l1)))))) (congrArg (encE (Value.int .i64)) (show mkE (p.filter (fun e : Int × Int => decide (e.2 ∈ l1))) = mkE ((p ++ [(k_12, u_14)]).filter (fun e : Int × Int => decide (e.2 ∈ l1))) by first | rfl | (simp [mkE]; done) | (refine flm_y (F := fun e : Int × Int => decide (e.2 ∈ l1)) ?_; first | assumption | (simp_all [mem_keyL]; done)) | (refine flm_n (F := fun e : Int × Int => decide (e.2 ∈ l1)) ?_; first | assumption | (simp_all [mem_keyL]; done))))
      replace S := S.front1
      replace S := S.reIt (p' := (encE (Value.int .i64) (p ++ [(k_12, u_14)]))) (congrArg (encE (Value.int .i64)) (show p ++ [(k_12, u_14)] = (p ++ [(k_12, u_14)]) by first | rfl | (simp [mkE]; done) | (refine flm_y (F := fun e : Int × Int => decide (e.2 ∈ l1)) ?_; first | assumption | (simp_all [mem_keyL]; done)) | (refine flm_n (F := fun e : Int × Int => decide (e.2 ∈ l1)) ?_; first | assumption | (simp_all [mem_keyL]; done))))
      exact ⟨(p ++ [(k_12, u_14)]), ⟨M_16, (hM_8.trans hM_16), S, E.keep ⟨rfl, rfl, rfl, trivial⟩, (by exact snocNk (by assumption) (by assumption)), (by exact snocSk (by assumption) (by assumption)), (by simp; omega)⟩, (by simp; omega)⟩

set_option maxRecDepth 100000 in
set_option maxHeartbeats 4000000 in
theorem impl_PickByValues {M : Hp} {v0 : Value} {l0 : List (Int × Int)} (h0 : RdS 2 RP2 M v0 l0) {v1 : Value} {l1 : List Int} (h1 : RdI M v1 l1) (hb : l0.length ≤ 1000000000000) :
    Pu Try.prog (.func (.func 70) #[] #[]) M [v0, v1] (fun r M' => RdS 2 RP2 M' r (entE ((mkE l0).filter (fun e : Int × Int => decide (e.2 ∈ l1))))) := by
  refine Pu_enter Try.func70 rfl Try.ntmps70 rfl Try.call70 ?_
  intro a w M1 H hM1 S E
  replace h0 := h0.le RP2_mono hM1
  replace h1 := h1.le hM1
  have b0 := h0.bound
  have b1 := h1.bound
  refine WP_seq ?_
  refine WP_region ?_
  refine S_v E rfl (R_assign E rfl) rfl ?_
  clear E a; intro a E
  refine WL_nil ?_
  refine T_n ?_
  refine WP_seq ?_
  refine WP_region ?_
  refine S_v E rfl (R_move E rfl) rfl ?_
  clear E a; intro a E
  refine S_x (X_pu E S rfl rfl rfl (impl_mapOf h0) (Hp.le.refl _) ?_)
  clear E a S; rintro a v_2 w M_1 hM_1 hv_2 S E
  replace h0 := h0.le RP2_mono hM_1
  replace h1 := h1.le hM_1
  refine S_v E rfl (R_move E rfl) rfl ?_
  clear E a; intro a E
  refine S_x (X_pu E S rfl rfl rfl (lo_PickByValues hv_2 h1) (Hp.le.refl _) ?_)
  clear E a S; rintro a v_4 w M_3 hM_3 ⟨q_5, hv_4, hkq_5⟩ S E
  replace h0 := h0.le RP2_mono hM_3
  replace h1 := h1.le hM_3
  replace hv_2 := hv_2.le hM_3
  refine S_x (X_pu E S rfl rfl rfl (impl_pairs hv_4 (by first | omega | (exact bigE _ l0 (by first | (rw [ixm_len]; exact Nat.le_refl _) | exact kpix_len _ _ _ | (rw [List.length_map]; exact Nat.le_refl _)) (by omega)) | exact Nat.le_trans (mkE_len _) (by omega) | (exact Nat.le_trans (lk_len (by assumption) (by assumption)) (by first | omega | exact Nat.le_trans (fl_mk _ _) (by omega))) | exact Nat.le_trans (mk_perm_len (by assumption)) (by omega) | exact Nat.le_trans (Nat.le_trans (lk_len (by assumption) (by assumption)) (mkl_len _ _)) (by omega) | (first | omega | (simp; omega) | (simp; done) | (simp_all; omega) | grind) | exact Nat.le_trans (upM_len _ _) (by omega) | exact Nat.le_trans (Nat.le_trans (lk_len (by assumption) (by assumption)) (flt_len _ _)) (by omega))) (Hp.le.refl _) ?_)
  clear E a S; rintro a v_7 w M_6 hM_6 hv_7 S E
  replace h0 := h0.le RP2_mono hM_6
  replace h1 := h1.le hM_6
  replace hv_2 := hv_2.le hM_6
  replace hv_4 := hv_4.le hM_6
  refine S_v E rfl (R_assign E rfl) rfl ?_
  clear E a; intro a E
  refine WL_nil ?_
  refine T_n ?_
  refine WP_ret ?_
  exact F_ret1 E Try.results70 rfl ⟨_, rfl, M_6, (hM_1.trans (hM_3.trans hM_6)), (by rw [show (entE ((mkE l0).filter (fun e : Int × Int => decide (e.2 ∈ l1)))) = (srtK Prod.fst q_5) from by (exact (lk_srt (by assumption) (by assumption)).symm)]; exact hv_7), S⟩

set_option maxRecDepth 100000 in
set_option maxHeartbeats 4000000 in
theorem lo_OmitByValues {M : Hp} {m0 : Value} {q0 : List (Int × Int)} (hm0 : RdM M m0 (encE (Value.int .i64) q0)) {v1 : Value} {l1 : List Int} (h1 : RdI M v1 l1) :
    Pu Try.prog (.func (.func 141) #[] #[]) M [m0, v1] (fun r M' => ∃ q_, RdM M' r (encE (Value.int .i64) q_) ∧ lkE q_ = lkE ((q0).filter (fun e : Int × Int => !decide (e.2 ∈ l1)))) := by
  refine Pu_enter Try.func141 rfl Try.ntmps141 rfl Try.call141 ?_
  intro a w M1 H hM1 S E
  replace hm0 := hm0.le hM1
  replace h1 := h1.le hM1
  have hnq : (q0.map Prod.fst).Nodup := keys_encE (Value.int .i64) q0 ▸ hm0.nodup
  have b1 := h1.bound
  refine WP_seq ?_
  refine WP_region ?_
  refine S_v E rfl (R_assign E rfl) rfl ?_
  clear E a; intro a E
  refine WL_nil ?_
  refine T_n ?_
  refine WP_seq ?_
  refine WP_region ?_
  refine S_x (X_makeMap E S rfl ?_)
  clear E a S; rintro a w b_1 E S
  replace S : St w M1 (OwnE (Value.int .i64) b_1 ([] : List (Int × Int)) :: _) := S
  refine S_v E rfl (R_assign E rfl) rfl ?_
  clear E a; intro a E
  refine WL_nil ?_
  refine T_n ?_
  refine WP_seq ?_
  refine WP_region ?_
  refine S_v E rfl (R_move E rfl) rfl ?_
  clear E a; intro a E
  refine S_x (X_sp (p := []) E S rfl rfl rfl (lo_Keyify h1) (Hp.le.refl _) ?_)
  clear E a S; rintro a _ w M_2 _ hM_2 ⟨v_3, rfl, rfl⟩ S E
  replace S : St w M_2 (OwnS v_3 (keyL l1) :: _) := S
  replace hm0 := hm0.le hM_2
  replace h1 := h1.le hM_2
  refine S_v E rfl (R_assign E rfl) rfl ?_
  clear E a; intro a E
  refine WL_nil ?_
  refine T_n ?_
  refine WP_seq ?_
  refine WP_seq ?_
  refine WP_region ?_
  refine S_v E rfl (R_move E rfl) rfl ?_
  clear E a; intro a E
  refine S_x (X_range E S rfl MT103 hm0 rfl ?_)
  clear E a S; rintro a w i_4 es_5 ck_6 E hf_7 S
  replace S : St w M_2 (ItO m0 es_5 ck_6 i_4 (encE (Value.int .i64) ([] : List (Int × Int))) :: _) := S
  refine WL_nil ?_
  refine T_n ?_
  refine WP_block ?_
  replace S := S.front2
  replace S := S.front1
  replace S := S.front1
  replace S := S.reM (L' := (encE (Value.int .i64) (mkE ([].filter (fun e : Int × Int => !decide (e.2 ∈ l1)))))) (congrArg (encE (Value.int .i64)) (show ([] : List (Int × Int)) = mkE ([].filter (fun e : Int × Int => !decide (e.2 ∈ l1))) by first | rfl | (simp [mkE]; done) | (refine flm_y (F := fun e : Int × Int => !decide (e.2 ∈ l1)) ?_; first | assumption | (simp_all [mem_keyL]; done)) | (refine flm_n (F := fun e : Int × Int => !decide (e.2 ∈ l1)) ?_; first | assumption | (simp_all [mem_keyL]; done))))
  replace S := S.front1
  replace S := S.reIt (p' := (encE (Value.int .i64) [])) (congrArg (encE (Value.int .i64)) (show ([] : List (Int × Int)) = [] by first | rfl | (simp [mkE]; done) | (refine flm_y (F := fun e : Int × Int => !decide (e.2 ∈ l1)) ?_; first | assumption | (simp_all [mem_keyL]; done)) | (refine flm_n (F := fun e : Int × Int => !decide (e.2 ∈ l1)) ?_; first | assumption | (simp_all [mem_keyL]; done))))
  refine WP_loop (γ := List (Int × Int)) (fun (p : List (Int × Int)) a w => ∃ (M_8 : Hp), Hp.le M_2 M_8 ∧ St w M_8 (ItO m0 es_5 ck_6 i_4 (encE (Value.int .i64) p) :: OwnE (Value.int .i64) b_1 (mkE (p.filter (fun e : Int × Int => !decide (e.2 ∈ l1)))) :: OwnS v_3 (keyL l1) :: H) ∧ Env a 33 [] [(5, .map (some b_1)), (6, .map (some v_3)), (15, .pointer (some ⟨i_4, 0, none⟩))] ∧ ((p.map Prod.fst).Nodup) ∧ (∀ z ∈ p, z ∈ q0) ∧ (p.length ≤ q0.length)) (fun p => q0.length - p.length) [] ⟨M_2, Hp.le.refl _, S, E.keep ⟨rfl, rfl, rfl, trivial⟩, (by simp), (by simp), (by simp)⟩ ?_
  try clear E
  try clear S
  try clear a
  try clear w
  rintro p a w ⟨M_8, hM_8, S, E, hL0_0, hL0_1, hL0_2⟩
  replace hm0 := hm0.le hM_8
  replace h1 := h1.le hM_8
  replace hf_7 := hf_7.le hM_8
  refine WP_seq ?_
  refine WP_region ?_
  refine S_x (X_nextE (vf := (Value.int .i64)) E S rfl hf_7 rfl (by assumption) (by assumption) ?_ ?_)
  · clear E a S; rintro a E hpm_9 S
    refine S_v E rfl (R_extract E rfl rfl) rfl ?_
    clear E a; intro a E
    refine WL_nil ?_
    refine T_n ?_
    refine WP_seq ?_
    refine WP_condF E rfl rfl ?_
    refine WP_exit ?_
    refine T_x ?_
    refine T_x ?_
    refine B_x ?_
    refine T_n ?_
    refine WP_seq ?_
    refine WP_region ?_
    refine S_v E rfl (R_move E rfl) rfl ?_
    clear E a; intro a E
    refine S_v E rfl (R_assign E rfl) rfl ?_
    clear E a; intro a E
    refine WL_nil ?_
    refine T_n ?_
    refine WP_ret ?_
    replace S := S.front1
    have S0 := S; clear S
    obtain ⟨M_10, hM_10, hm_11, S⟩ := S0.freezeM
    clear S0
    replace hm0 := hm0.le hM_10
    replace h1 := h1.le hM_10
    replace hf_7 := hf_7.le hM_10
    exact F_ret1 E Try.results141 rfl ⟨_, rfl, M_10, (hM_2.trans (hM_8.trans hM_10)), ⟨_, hm_11, by (exact flm_k hnq (by assumption))⟩, S.drop.drop⟩
  · clear E a S w; rintro a w k_12 u_14 E hk_13 hk_13n hk_13l S
    refine S_v E rfl (R_extract E rfl rfl) rfl ?_
    clear E a; intro a E
    refine WL_nil ?_
    refine T_n ?_
    refine WP_seq ?_
    refine WP_condT E rfl rfl ?_
    refine WP_skip ?_
    refine T_n ?_
    refine WP_block ?_
    refine WP_seq ?_
    refine WP_region ?_
    refine S_v E rfl (R_entry (k := k_12) (v := .int .i64 u_14) E (by have S1 := S; simp only [encE, List.map_append, List.map_cons, List.map_nil] at S1; exact S1) hf_7 rfl) rfl ?_
    clear E a; intro a E
    refine S_v E rfl (R_extract E rfl rfl) rfl ?_
    clear E a; intro a E
    refine S_v E rfl (R_extract E rfl rfl) rfl ?_
    clear E a; intro a E
    refine S_v E rfl (R_assign E rfl) rfl ?_
    clear E a; intro a E
    refine S_v E rfl (R_assign E rfl) rfl ?_
    clear E a; intro a E
    refine WL_nil ?_
    refine T_n ?_
    refine WP_seq ?_
    refine WP_region ?_
    refine S_v E rfl (R_move E rfl) rfl ?_
    clear E a; intro a E
    refine S_v E rfl (R_move E rfl) rfl ?_
    clear E a; intro a E
    replace S := S.front2
    refine S_x (X_lookupS E S rfl MT140 rfl rfl ?_)
    clear E a S; rintro a w E S
    replace S : St w M_8 (OwnS v_3 (keyL l1) :: _) := S
    refine S_v E rfl (R_move E rfl) rfl ?_
    clear E a; intro a E
    refine S_v E rfl (R_extract E rfl rfl) rfl ?_
    clear E a; intro a E
    refine S_v E rfl (R_extract E rfl rfl) rfl ?_
    clear E a; intro a E
    refine S_x (X_alloc (cs := #[]) E S rfl Try.zeroValue141 rfl ?_)
    clear E a S; rintro a w b_15 E S
    refine S_x0 (X_storeG (us := []) E S rfl rfl (Try.sizeOf141 _) rfl (by intro u hu; cases hu) ?_)
    clear E a S; rintro a w E S
    replace S : St w M_8 (blk b_15 (.cells #[] 141) :: _) := S
    have S0 := S; clear S
    obtain ⟨M_16, hM_16, hb_17, S⟩ := S0.freezeB
    clear S0
    replace hm0 := hm0.le hM_16
    replace h1 := h1.le hM_16
    replace hf_7 := hf_7.le hM_16
    refine S_v E rfl (R_assign E rfl) rfl ?_
    clear E a; intro a E
    refine WL_nil ?_
    refine T_n ?_
    refine WP_seq ?_
    refine WP_region ?_
    refine S_v E rfl (R_move E rfl) rfl ?_
    clear E a; intro a E
    refine S_v E rfl (R_not E rfl) rfl ?_
    clear E a; intro a E
    refine WL_nil ?_
    refine T_n ?_
    refine WP_cond E rfl (fun hc_18 => ?_) (fun hc_18 => ?_)
    · refine WP_region ?_
      refine S_v E rfl (R_move E rfl) rfl ?_
      clear E a; intro a E
      refine S_v E rfl (R_move E rfl) rfl ?_
      clear E a; intro a E
      refine S_v E rfl (R_move E rfl) rfl ?_
      clear E a; intro a E
      replace S := S.front2
      refine S_x0 (X_updateE (vf := (Value.int .i64)) (u := u_14) E S MT103 rfl rfl rfl ?_)
      clear E a S; rintro a w E S
      refine WL_nil ?_
      refine B_n ?_
      refine T_n ?_
      replace S := S.front1
      replace S := S.front1
      replace S := S.front2
      replace S := S.front1
      replace S := S.reM (L' := (encE (Value.int .i64) (mkE ((p ++ [(k_12, u_14)]).filter (fun e : Int × Int => !decide (e.2 ∈ l1)))))) (congrArg (encE (Value.int .i64)) (show putK (mkE (p.filter (fun e : Int × Int => !decide (e.2 ∈ l1)))) k_12 u_14 = mkE ((p ++ [(k_12, u_14)]).filter (fun e : Int × Int => !decide (e.2 ∈ l1))) by first | rfl | (simp [mkE]; done) | (refine flm_y (F := fun e : Int × Int => !decide (e.2 ∈ l1)) ?_; first | assumption | (simp_all [mem_keyL]; done)) | (refine flm_n (F := fun e : Int × Int => !decide (e.2 ∈ l1)) ?_; first | assumption | (simp_all [mem_keyL]; done))))
      replace S := S.front1
      replace S := S.reIt (p' := (encE (Value.int .i64) (p ++ [(k_12, u_14)]))) (congrArg (encE (Value.int .i64)) (show p ++ [(k_12, u_14)] = (p ++ [(k_12, u_14)]) by first | rfl | (simp [mkE]; done) | (refine flm_y (F := fun e : Int × Int => !decide (e.2 ∈ l1)) ?_; first | assumption | (simp_all [mem_keyL]; done)) | (refine flm_n (F := fun e : Int × Int => !decide (e.2 ∈ l1)) ?_; first | assumption | (simp_all [mem_keyL]; done))))
      exact ⟨(p ++ [(k_12, u_14)]), ⟨M_16, (hM_8.trans hM_16), S, E.keep ⟨rfl, rfl, rfl, trivial⟩, (by exact snocNk (by assumption) (by assumption)), (by exact snocSk (by assumption) (by assumption)), (by simp; omega)⟩, (by simp; omega)⟩
    · refine WP_skip ?_
      refine B_n ?_
      refine T_n ?_
      replace S := S.front2
      replace S := S.front2
      replace S := S.front1
      replace S := S.reM (L' := (encE (Value.int .i64) (mkE ((p ++ [(k_12, u_14)]).filter (fun e : Int × Int => !decide (e.2 ∈ l1)))))) (congrArg (encE (Value.int .i64)) (show mkE (p.filter (fun e : Int × Int => !decide (e.2 ∈ l1))) = mkE ((p ++ [(k_12, u_14)]).filter (fun e : Int × Int => !decide (e.2 ∈ l1))) by first | rfl | (simp [mkE]; done) | (refine flm_y (F := fun e : Int × Int => !decide (e.2 ∈ l1)) ?_; first | assumption | (simp_all [mem_keyL]; done)) | (refine flm_n (F := fun e : Int × Int => !decide (e.2 ∈ l1)) ?_; first | assumption | (simp_all [mem_keyL]; done))))
      replace S := S.front1
      replace S := S.reIt (p' := (encE (Value.int .i64) (p ++ [(k_12, u_14)]))) (congrArg (encE (Value.int .i64)) (show p ++ [(k_12, u_14)] = (p ++ [(k_12, u_14)]) by first | rfl | (simp [mkE]; done) | (refine flm_y (F := fun e : Int × Int => !decide (e.2 ∈ l1)) ?_; first | assumption | (simp_all [mem_keyL]; done)) | (refine flm_n (F := fun e : Int × Int => !decide (e.2 ∈ l1)) ?_; first | assumption | (simp_all [mem_keyL]; done))))
      exact ⟨(p ++ [(k_12, u_14)]), ⟨M_16, (hM_8.trans hM_16), S, E.keep ⟨rfl, rfl, rfl, trivial⟩, (by exact snocNk (by assumption) (by assumption)), (by exact snocSk (by assumption) (by assumption)), (by simp; omega)⟩, (by simp; omega)⟩

set_option maxRecDepth 100000 in
set_option maxHeartbeats 4000000 in
theorem impl_OmitByValues {M : Hp} {v0 : Value} {l0 : List (Int × Int)} (h0 : RdS 2 RP2 M v0 l0) {v1 : Value} {l1 : List Int} (h1 : RdI M v1 l1) (hb : l0.length ≤ 1000000000000) :
    Pu Try.prog (.func (.func 71) #[] #[]) M [v0, v1] (fun r M' => RdS 2 RP2 M' r (entE ((mkE l0).filter (fun e : Int × Int => !decide (e.2 ∈ l1))))) := by
  refine Pu_enter Try.func71 rfl Try.ntmps71 rfl Try.call71 ?_
  intro a w M1 H hM1 S E
  replace h0 := h0.le RP2_mono hM1
  replace h1 := h1.le hM1
  have b0 := h0.bound
  have b1 := h1.bound
  refine WP_seq ?_
  refine WP_region ?_
  refine S_v E rfl (R_assign E rfl) rfl ?_
  clear E a; intro a E
  refine WL_nil ?_
  refine T_n ?_
  refine WP_seq ?_
  refine WP_region ?_
  refine S_v E rfl (R_move E rfl) rfl ?_
  clear E a; intro a E
  refine S_x (X_pu E S rfl rfl rfl (impl_mapOf h0) (Hp.le.refl _) ?_)
  clear E a S; rintro a v_2 w M_1 hM_1 hv_2 S E
  replace h0 := h0.le RP2_mono hM_1
  replace h1 := h1.le hM_1
  refine S_v E rfl (R_move E rfl) rfl ?_
  clear E a; intro a E
  refine S_x (X_pu E S rfl rfl rfl (lo_OmitByValues hv_2 h1) (Hp.le.refl _) ?_)
  clear E a S; rintro a v_4 w M_3 hM_3 ⟨q_5, hv_4, hkq_5⟩ S E
  replace h0 := h0.le RP2_mono hM_3
  replace h1 := h1.le hM_3
  replace hv_2 := hv_2.le hM_3
  refine S_x (X_pu E S rfl rfl rfl (impl_pairs hv_4 (by first | omega | (exact bigE _ l0 (by first | (rw [ixm_len]; exact Nat.le_refl _) | exact kpix_len _ _ _ | (rw [List.length_map]; exact Nat.le_refl _)) (by omega)) | exact Nat.le_trans (mkE_len _) (by omega) | (exact Nat.le_trans (lk_len (by assumption) (by assumption)) (by first | omega | exact Nat.le_trans (fl_mk _ _) (by omega))) | exact Nat.le_trans (mk_perm_len (by assumption)) (by omega) | exact Nat.le_trans (Nat.le_trans (lk_len (by assumption) (by assumption)) (mkl_len _ _)) (by omega) | (first | omega | (simp; omega) | (simp; done) | (simp_all; omega) | grind) | exact Nat.le_trans (upM_len _ _) (by omega) | exact Nat.le_trans (Nat.le_trans (lk_len (by assumption) (by assumption)) (flt_len _ _)) (by omega))) (Hp.le.refl _) ?_)
  clear E a S; rintro a v_7 w M_6 hM_6 hv_7 S E
  replace h0 := h0.le RP2_mono hM_6
  replace h1 := h1.le hM_6
  replace hv_2 := hv_2.le hM_6
  replace hv_4 := hv_4.le hM_6
  refine S_v E rfl (R_assign E rfl) rfl ?_
  clear E a; intro a E
  refine WL_nil ?_
  refine T_n ?_
  refine WP_ret ?_
  exact F_ret1 E Try.results71 rfl ⟨_, rfl, M_6, (hM_1.trans (hM_3.trans hM_6)), (by rw [show (entE ((mkE l0).filter (fun e : Int × Int => !decide (e.2 ∈ l1)))) = (srtK Prod.fst q_5) from by (exact (lk_srt (by assumption) (by assumption)).symm)]; exact hv_7), S⟩

set_option maxRecDepth 100000 in
set_option maxHeartbeats 4000000 in
theorem lo_Assign {M : Hp} {v0 : Value} {l0 : List (List (Int × Int))} (h0 : RdS 1 RMp M v0 l0) (hb : l0.flatten.length ≤ 1000000000000) :
    Pu Try.prog (.func (.func 132) #[] #[]) M [v0] (fun r M' => ∃ q_, RdM M' r (encE (Value.int .i64) q_) ∧ lkE q_ = lkE ((l0).flatten)) := by
  refine Pu_enter Try.func132 rfl Try.ntmps132 rfl Try.call132 ?_
  intro a w M1 H hM1 S E
  replace h0 := h0.le RMp_mono hM1
  have b0 := h0.bound
  refine WP_seq ?_
  refine WP_region ?_
  refine S_v E rfl (R_assign E rfl) rfl ?_
  clear E a; intro a E
  refine WL_nil ?_
  refine T_n ?_
  refine WP_seq ?_
  refine WP_region ?_
  refine S_v E rfl (R_assign E rfl) rfl ?_
  clear E a; intro a E
  refine WL_nil ?_
  refine T_n ?_
  refine WP_seq ?_
  refine WP_seq ?_
  refine WP_region ?_
  refine S_v E rfl (R_move E rfl) rfl ?_
  clear E a; intro a E
  refine S_v E rfl (R_lenV E rfl T126 h0.len) rfl ?_
  clear E a; intro a E
  refine S_v E rfl (R_move E rfl) rfl ?_
  clear E a; intro a E
  refine WL_nil ?_
  refine T_n ?_
  refine WP_block ?_
  refine WP_loop (γ := Nat) (fun (k : Nat) a w => ∃ (M_1 : Hp), Hp.le M1 M_1 ∧ St w M_1 (H) ∧ Env a 44 [] [(0, v0), (3, .int .i64 ((((l0.take k).flatten).length : Nat) : Int)), (10, .int .i64 (((l0).length : Nat) : Int)), (11, .int .i64 ((k : Nat) : Int))] ∧ (k ≤ (l0).length)) (fun k => ((l0).length) - k) 0 ⟨M1, Hp.le.refl _, S, E.keep ⟨rfl, look_nat (i := 0) rfl (by (simp)), rfl, rfl, trivial⟩, by ((try clear S); (try clear E); first | assumption | omega | rfl | (simp; done) | (simp_all; done) | (simp [List.take_add_one, *]; done) | grind [List.take_add_one])⟩ ?_
  try clear E
  try clear S
  try clear a
  try clear w
  rintro k a w ⟨M_1, hM_1, S, E, hL0_0⟩
  replace h0 := h0.le RMp_mono hM_1
  have hfl := fl_le l0 k
  refine WP_seq ?_
  refine WP_region ?_
  refine S_v E rfl (R_lss E rfl rfl) rfl ?_
  clear E a; intro a E
  refine WL_nil ?_
  refine T_n ?_
  refine WP_seq ?_
  refine WP_cond E rfl (fun hc_2 => ?_) (fun hc_2 => ?_)
  · replace hc_2 := of_decide_eq_true hc_2
    refine WP_skip ?_
    refine T_n ?_
    refine WP_seq ?_
    refine WP_block ?_
    refine WP_seq ?_
    refine WP_region ?_
    refine S_v E rfl (R_move E rfl) rfl ?_
    clear E a; intro a E
    refine S_v E rfl (R_assign E rfl) rfl ?_
    clear E a; intro a E
    refine WL_nil ?_
    refine T_n ?_
    refine WP_region ?_
    refine S_v E rfl (R_move E rfl) rfl ?_
    clear E a; intro a E
    refine S_v E rfl (R_move E rfl) rfl ?_
    clear E a; intro a E
    refine S_v E rfl (R_move E rfl) rfl ?_
    clear E a; intro a E
    obtain ⟨x_3, hx_3⟩ : ∃ x, (l0)[k]? = some x := ⟨_, List.getElem?_eq_getElem (by first | omega | (simp; done) | (simp; omega) | (simp_all; omega))⟩
    obtain ⟨p_4, u_5, hp_4, qp_4, hu_5⟩ := RdMp.at h0 hx_3
    refine S_v E rfl (R_idx E rfl rfl T126 hp_4 rfl) rfl ?_
    clear E a; intro a E
    refine S_v E rfl (R_loadM E rfl Try.isAgg103 S.imm qp_4) rfl ?_
    clear E a; intro a E
    refine S_v E rfl ((R_lenF S.imm hu_5 E MT103 rfl).trans (by rw [encE_len])) rfl ?_
    clear E a; intro a E
    refine S_v E rfl (R_addx (m := ((((l0.take k).flatten).length + (x_3).length : Nat) : Int)) E rfl rfl (by (have h9 := fl_lt (by assumption); omega)) (by (have h9 := fl_lt (by assumption); omega))) rfl ?_
    clear E a; intro a E
    refine S_v E rfl (R_assign E rfl) rfl ?_
    clear E a; intro a E
    refine WL_nil ?_
    refine B_n ?_
    refine T_n ?_
    refine WP_region ?_
    refine S_v E rfl (R_addx (m := ((k + 1 : Nat) : Int)) E rfl rfl (by (have h9 := fl_lt (by assumption); omega)) (by (have h9 := fl_lt (by assumption); omega))) rfl ?_
    clear E a; intro a E
    refine S_v E rfl (R_move E rfl) rfl ?_
    clear E a; intro a E
    refine WL_nil ?_
    refine T_n ?_
    exact ⟨k + 1, ⟨M_1, hM_1, S, E.keep ⟨rfl, look_nat (i := ((l0.take k).flatten).length + (x_3).length) rfl (by (rw [fl_succ (by assumption), List.length_append])), rfl, rfl, trivial⟩, by ((try clear S); (try clear E); first | assumption | omega | rfl | (simp; done) | (simp_all; done) | (simp [List.take_add_one, *]; done) | grind [List.take_add_one])⟩, by omega⟩
  · replace hc_2 := of_decide_eq_false hc_2
    refine WP_exit ?_
    refine T_x ?_
    refine T_x ?_
    refine B_x ?_
    refine T_n ?_
    refine WP_seq ?_
    refine WP_region ?_
    refine S_v E rfl (R_move E rfl) rfl ?_
    clear E a; intro a E
    refine S_x (X_makeMapR E S rfl MT103 rfl ?_)
    clear E a S; rintro a w b_6 E S
    replace S : St w M_1 (OwnE (Value.int .i64) b_6 ([] : List (Int × Int)) :: _) := S
    refine S_v E rfl (R_assign E rfl) rfl ?_
    clear E a; intro a E
    refine WL_nil ?_
    refine T_n ?_
    refine WP_seq ?_
    refine WP_seq ?_
    refine WP_region ?_
    refine S_v E rfl (R_move E rfl) rfl ?_
    clear E a; intro a E
    refine S_v E rfl (R_lenV E rfl T126 h0.len) rfl ?_
    clear E a; intro a E
    refine S_v E rfl (R_move E rfl) rfl ?_
    clear E a; intro a E
    refine WL_nil ?_
    refine T_n ?_
    refine WP_block ?_
    refine WP_loop (γ := Nat) (fun (k : Nat) a w => ∃ (M_7 : Hp) (q5 : PLst), Hp.le M_1 M_7 ∧ St w M_7 (OwnE (Value.int .i64) b_6 q5 :: H) ∧ Env a 44 [] [(0, v0), (5, .map (some b_6)), (25, .int .i64 (((l0).length : Nat) : Int)), (26, .int .i64 ((k : Nat) : Int))] ∧ (k ≤ (l0).length) ∧ ((q5.map Prod.fst).Nodup) ∧ (lkE q5 = lkE ((l0.take k).flatten))) (fun k => ((l0).length) - k) 0 ⟨M_1, _, Hp.le.refl _, S, E.keep ⟨rfl, rfl, rfl, rfl, trivial⟩, by ((try clear S); (try clear E); first | assumption | omega | rfl | (simp; done) | (simp_all; done) | (simp [List.take_add_one, *]; done) | grind [List.take_add_one]), (by simp), (by rfl)⟩ ?_
    try clear E
    try clear S
    try clear a
    try clear w
    rintro k a w ⟨M_7, q5, hM_7, S, E, hL1_0, hL1_1, hL1_2⟩
    replace h0 := h0.le RMp_mono hM_7
    refine WP_seq ?_
    refine WP_region ?_
    refine S_v E rfl (R_lss E rfl rfl) rfl ?_
    clear E a; intro a E
    refine WL_nil ?_
    refine T_n ?_
    refine WP_seq ?_
    refine WP_cond E rfl (fun hc_8 => ?_) (fun hc_8 => ?_)
    · replace hc_8 := of_decide_eq_true hc_8
      refine WP_skip ?_
      refine T_n ?_
      refine WP_seq ?_
      refine WP_block ?_
      refine WP_seq ?_
      refine WP_region ?_
      refine S_v E rfl (R_move E rfl) rfl ?_
      clear E a; intro a E
      refine S_v E rfl (R_assign E rfl) rfl ?_
      clear E a; intro a E
      refine WL_nil ?_
      refine T_n ?_
      refine WP_seq ?_
      refine WP_region ?_
      refine S_v E rfl (R_move E rfl) rfl ?_
      clear E a; intro a E
      refine S_v E rfl (R_move E rfl) rfl ?_
      clear E a; intro a E
      obtain ⟨x_9, hx_9⟩ : ∃ x, (l0)[k]? = some x := ⟨_, List.getElem?_eq_getElem (by first | omega | (simp; done) | (simp; omega) | (simp_all; omega))⟩
      obtain ⟨p_10, u_11, hp_10, qp_10, hu_11⟩ := RdMp.at h0 hx_9
      refine S_v E rfl (R_idx E rfl rfl T126 hp_10 rfl) rfl ?_
      clear E a; intro a E
      refine S_v E rfl (R_loadM E rfl Try.isAgg103 S.imm qp_10) rfl ?_
      clear E a; intro a E
      refine S_x (X_range E S rfl MT103 hu_11 rfl ?_)
      clear E a S; rintro a w i_12 es_13 ck_14 E hf_15 S
      replace S : St w M_7 (ItO u_11 es_13 ck_14 i_12 (encE (Value.int .i64) ([] : List (Int × Int))) :: _) := S
      refine WL_nil ?_
      refine T_n ?_
      refine WP_block ?_
      replace S := S.front1
      replace S := S.front1
      replace S := S.front1
      replace S := S.reM (L' := (encE (Value.int .i64) (putA q5 []))) (congrArg (encE (Value.int .i64)) (show q5 = putA q5 [] by first | rfl | (simp; done) | exact putA_ap2 _ _ _ _))
      replace S := S.front1
      replace S := S.reIt (p' := (encE (Value.int .i64) [])) (congrArg (encE (Value.int .i64)) (show ([] : List (Int × Int)) = [] by first | rfl | (simp; done) | exact putA_ap2 _ _ _ _))
      refine WP_loop (γ := List (Int × Int)) (fun (p : List (Int × Int)) a w => ∃ (M_16 : Hp), Hp.le M_7 M_16 ∧ St w M_16 (ItO u_11 es_13 ck_14 i_12 (encE (Value.int .i64) p) :: OwnE (Value.int .i64) b_6 (putA q5 p) :: H) ∧ Env a 44 [] [(0, v0), (5, .map (some b_6)), (25, .int .i64 (((l0).length : Nat) : Int)), (26, .int .i64 ((k : Nat) : Int)), (33, .pointer (some ⟨i_12, 0, none⟩))] ∧ ((p.map Prod.fst).Nodup) ∧ (∀ z ∈ p, z ∈ x_9) ∧ (p.length ≤ x_9.length)) (fun p => x_9.length - p.length) [] ⟨M_7, Hp.le.refl _, S, E.keep ⟨rfl, rfl, rfl, rfl, rfl, trivial⟩, (by simp), (by simp), (by simp)⟩ ?_
      try clear E
      try clear S
      try clear a
      try clear w
      rintro p a w ⟨M_16, hM_16, S, E, hL2_0, hL2_1, hL2_2⟩
      replace h0 := h0.le RMp_mono hM_16
      replace hu_11 := hu_11.le hM_16
      replace hf_15 := hf_15.le hM_16
      refine WP_seq ?_
      refine WP_region ?_
      refine S_x (X_nextE (vf := (Value.int .i64)) E S rfl hf_15 rfl (by assumption) (by assumption) ?_ ?_)
      · clear E a S; rintro a E hpm_17 S
        refine S_v E rfl (R_extract E rfl rfl) rfl ?_
        clear E a; intro a E
        refine WL_nil ?_
        refine T_n ?_
        refine WP_seq ?_
        refine WP_condF E rfl rfl ?_
        refine WP_exit ?_
        refine T_x ?_
        refine T_x ?_
        refine B_x ?_
        refine B_n ?_
        refine T_n ?_
        refine WP_region ?_
        refine S_v E rfl (R_addx (m := ((k + 1 : Nat) : Int)) E rfl rfl (by (have h9 := fl_lt (by assumption); omega)) (by (have h9 := fl_lt (by assumption); omega))) rfl ?_
        clear E a; intro a E
        refine S_v E rfl (R_move E rfl) rfl ?_
        clear E a; intro a E
        refine WL_nil ?_
        refine T_n ?_
        replace S := S.drop
        exact ⟨k + 1, ⟨M_16, _, (hM_7.trans hM_16), S, E.keep ⟨rfl, rfl, rfl, rfl, trivial⟩, by ((try clear S); (try clear E); first | assumption | omega | rfl | (simp; done) | (simp_all; done) | (simp [List.take_add_one, *]; done) | grind [List.take_add_one]), (by exact putA_nd (by assumption)), (by exact asg_step (by assumption) (by assumption) (by assumption) (by assumption) (by assumption))⟩, by omega⟩
      · clear E a S w; rintro a w k_18 u_20 E hk_19 hk_19n hk_19l S
        refine S_v E rfl (R_extract E rfl rfl) rfl ?_
        clear E a; intro a E
        refine WL_nil ?_
        refine T_n ?_
        refine WP_seq ?_
        refine WP_condT E rfl rfl ?_
        refine WP_skip ?_
        refine T_n ?_
        refine WP_block ?_
        refine WP_seq ?_
        refine WP_region ?_
        refine S_v E rfl (R_entry (k := k_18) (v := .int .i64 u_20) E (by have S1 := S; simp only [encE, List.map_append, List.map_cons, List.map_nil] at S1; exact S1) hf_15 rfl) rfl ?_
        clear E a; intro a E
        refine S_v E rfl (R_extract E rfl rfl) rfl ?_
        clear E a; intro a E
        refine S_v E rfl (R_extract E rfl rfl) rfl ?_
        clear E a; intro a E
        refine S_v E rfl (R_assign E rfl) rfl ?_
        clear E a; intro a E
        refine S_v E rfl (R_assign E rfl) rfl ?_
        clear E a; intro a E
        refine WL_nil ?_
        refine T_n ?_
        refine WP_region ?_
        refine S_v E rfl (R_move E rfl) rfl ?_
        clear E a; intro a E
        refine S_v E rfl (R_move E rfl) rfl ?_
        clear E a; intro a E
        refine S_v E rfl (R_move E rfl) rfl ?_
        clear E a; intro a E
        replace S := S.front1
        refine S_x0 (X_updateE (vf := (Value.int .i64)) (u := u_20) E S MT103 rfl rfl rfl ?_)
        clear E a S; rintro a w E S
        refine WL_nil ?_
        refine B_n ?_
        refine T_n ?_
        replace S := S.front1
        replace S := S.front1
        replace S := S.reM (L' := (encE (Value.int .i64) (putA q5 (p ++ [(k_18, u_20)])))) (congrArg (encE (Value.int .i64)) (show putK (putA q5 p) k_18 u_20 = putA q5 (p ++ [(k_18, u_20)]) by first | rfl | (simp; done) | exact putA_ap2 _ _ _ _))
        replace S := S.front1
        replace S := S.reIt (p' := (encE (Value.int .i64) (p ++ [(k_18, u_20)]))) (congrArg (encE (Value.int .i64)) (show p ++ [(k_18, u_20)] = (p ++ [(k_18, u_20)]) by first | rfl | (simp; done) | exact putA_ap2 _ _ _ _))
        exact ⟨(p ++ [(k_18, u_20)]), ⟨M_16, hM_16, S, E.keep ⟨rfl, rfl, rfl, rfl, rfl, trivial⟩, (by exact snocNk (by assumption) (by assumption)), (by exact snocSk (by assumption) (by assumption)), (by simp; omega)⟩, (by simp; omega)⟩
    · replace hc_8 := of_decide_eq_false hc_8
      refine WP_exit ?_
      refine T_x ?_
      refine T_x ?_
      refine B_x ?_
      refine T_n ?_
      refine WP_seq ?_
      refine WP_region ?_
      refine S_v E rfl (R_move E rfl) rfl ?_
      clear E a; intro a E
      refine S_v E rfl (R_assign E rfl) rfl ?_
      clear E a; intro a E
      refine WL_nil ?_
      refine T_n ?_
      refine WP_ret ?_
      have S0 := S; clear S
      obtain ⟨M_21, hM_21, hm_22, S⟩ := S0.freezeM
      clear S0
      replace h0 := h0.le RMp_mono hM_21
      exact F_ret1 E Try.results132 rfl ⟨_, rfl, M_21, (hM_1.trans (hM_7.trans hM_21)), ⟨_, hm_22, by (rw [← List.take_of_length_le (l := l0) (i := k) (by omega)]; assumption)⟩, S⟩

set_option maxRecDepth 100000 in
set_option maxHeartbeats 4000000 in
theorem impl_Assign {M : Hp} {v0 : Value} {l0 : List (List (Int × Int))} (h0 : RdS 1 (RSl 2 RP2) M v0 l0) (hb : l0.flatten.length ≤ 1000000000000) (hbl : l0.length ≤ 1000000000000) :
    Pu Try.prog (.func (.func 59) #[] #[]) M [v0] (fun r M' => RdS 2 RP2 M' r (entE (l0).flatten)) := by
  refine Pu_enter Try.func59 rfl Try.ntmps59 rfl Try.call59 ?_
  intro a w M1 H hM1 S E
  replace h0 := h0.le (RSl_mono RP2_mono) hM1
  have b0 := h0.bound
  refine WP_seq ?_
  refine WP_region ?_
  refine S_v E rfl (R_assign E rfl) rfl ?_
  clear E a; intro a E
  refine WL_nil ?_
  refine T_n ?_
  refine WP_seq ?_
  refine WP_region ?_
  refine S_v E rfl (R_assign E rfl) rfl ?_
  clear E a; intro a E
  refine WL_nil ?_
  refine T_n ?_
  refine WP_seq ?_
  refine WP_seq ?_
  refine WP_region ?_
  refine S_v E rfl (R_move E rfl) rfl ?_
  clear E a; intro a E
  refine S_v E rfl (R_lenV E rfl T70 h0.len) rfl ?_
  clear E a; intro a E
  refine S_v E rfl (R_move E rfl) rfl ?_
  clear E a; intro a E
  refine WL_nil ?_
  refine T_n ?_
  refine WP_block ?_
  replace S : St w M1 (OwnC 103 1 (.slice none 0 0) ([] : List (List (Int × Int))).length [] :: _) := S.ownNil
  have hr_2 : RowsR RMp 1 M1 ([] : List (List (Int × Int))) [] := RowsR.nil
  have hre : ([] : List (List (Int × Int))) = (l0.take 0).map mkE := by first | (simp; done) | (rw [tk_snoc (by assumption), List.map_append]; rfl)
  replace S := S.reR hre
  replace hr_2 := hr_2.eq hre
  clear hre
  refine WP_loop (γ := Nat) (fun (k : Nat) a w => ∃ (M_3 : Hp) (u3 : Value) (xs3 : List Value), Hp.le M1 M_3 ∧ St w M_3 (OwnC 103 1 u3 ((l0.take k).map mkE).length xs3 :: H) ∧ Env a 21 [] [(3, u3), (6, v0), (7, .int .i64 (((l0).length : Nat) : Int)), (8, .int .i64 ((k : Nat) : Int))] ∧ (k ≤ (l0).length) ∧ RowsR RMp 1 M_3 ((l0.take k).map mkE) xs3) (fun k => ((l0).length) - k) 0 ⟨M1, _, _, Hp.le.refl _, S, E.keep ⟨rfl, rfl, rfl, rfl, trivial⟩, by ((try clear S); (try clear E); first | assumption | omega | rfl | (simp; done) | (simp_all; done) | (simp [List.take_add_one, *]; done) | grind [List.take_add_one]), hr_2⟩ ?_
  try clear E
  try clear S
  try clear a
  try clear w
  rintro k a w ⟨M_3, u3, xs3, hM_3, S, E, hL0_0, hr3⟩
  replace h0 := h0.le (RSl_mono RP2_mono) hM_3
  refine WP_seq ?_
  refine WP_region ?_
  refine S_v E rfl (R_lss E rfl rfl) rfl ?_
  clear E a; intro a E
  refine WL_nil ?_
  refine T_n ?_
  refine WP_seq ?_
  refine WP_cond E rfl (fun hc_4 => ?_) (fun hc_4 => ?_)
  · replace hc_4 := of_decide_eq_true hc_4
    refine WP_skip ?_
    refine T_n ?_
    refine WP_seq ?_
    refine WP_block ?_
    refine WP_seq ?_
    refine WP_region ?_
    obtain ⟨x_5, hx_5⟩ : ∃ x, (l0)[k]? = some x := ⟨_, List.getElem?_eq_getElem (by first | omega | (simp; done) | (simp; omega) | (simp_all; omega))⟩
    obtain ⟨p_6, u_7, hp_6, qp_6, hu_7⟩ := RdPP.at h0 hx_5
    have bu_7 := hu_7.bound
    refine S_v E rfl (R_idx E rfl rfl T70 hp_6 rfl) rfl ?_
    clear E a; intro a E
    refine S_v E rfl (R_loadM E rfl Try.isAgg33 S.imm qp_6) rfl ?_
    clear E a; intro a E
    refine S_v E rfl (R_assign E rfl) rfl ?_
    clear E a; intro a E
    refine WL_nil ?_
    refine T_n ?_
    refine WP_region ?_
    refine S_v E rfl (R_move E rfl) rfl ?_
    clear E a; intro a E
    refine S_v E rfl (R_move E rfl) rfl ?_
    clear E a; intro a E
    refine S_x (X_pu E S rfl rfl rfl (impl_mapOf hu_7) (Hp.le.refl _) ?_)
    clear E a S; rintro a v_9 w M_8 hM_8 hv_9 S E
    replace h0 := h0.le (RSl_mono RP2_mono) hM_8
    replace hr3 := hr3.le RMp_mono hM_8
    replace hu_7 := hu_7.le RP2_mono hM_8
    refine S_x (X_buildM (R := RMp) (vs := [v_9]) (xs := [mkE x_5]) RMp_mono E S rfl T126 rfl rfl rfl (by intro u hu; simp only [List.mem_cons, List.not_mem_nil, or_false] at hu; rcases hu with rfl <;> first | exact RdM.one' hv_9) rfl (rowsC (R := RMp) ⟨_, rfl, hv_9⟩ rowsN) ?_)
    clear E a S; rintro a v_10 w M_11 hM_11 hv_10 S E
    replace h0 := h0.le (RSl_mono RP2_mono) hM_11
    replace hr3 := hr3.le RMp_mono hM_11
    replace hu_7 := hu_7.le RP2_mono hM_11
    replace hv_9 := hv_9.le hM_11
    refine S_x (X_appendR (R := RMp) (zs := (l0.take k).map mkE) (ys := [mkE x_5]) E S hr3 rfl rfl rfl T126 hv_10 one_RMp (by first | omega | (simp; done) | (simp; omega) | (simp_all; omega)) (by first | omega | (simp; done) | (simp; omega) | (simp_all; omega)) ?_)
    clear E a S; rintro a w v_12 xs_13 E hr_14 S
    refine S_v E rfl (R_assign E rfl) rfl ?_
    clear E a; intro a E
    refine WL_nil ?_
    refine B_n ?_
    refine T_n ?_
    refine WP_region ?_
    refine S_v E rfl (R_addx (m := ((k + 1 : Nat) : Int)) E rfl rfl (by omega) (by omega)) rfl ?_
    clear E a; intro a E
    refine S_v E rfl (R_move E rfl) rfl ?_
    clear E a; intro a E
    refine WL_nil ?_
    refine T_n ?_
    have hre : ((l0.take k).map mkE) ++ [mkE x_5] = (l0.take (k + 1)).map mkE := by first | (simp; done) | (rw [tk_snoc (by assumption), List.map_append]; rfl)
    replace S := S.reR hre
    replace hr_14 := hr_14.eq hre
    clear hre
    exact ⟨k + 1, ⟨M_11, _, _, (hM_3.trans (hM_8.trans hM_11)), S, E.keep ⟨rfl, rfl, rfl, rfl, trivial⟩, by ((try clear S); (try clear E); first | assumption | omega | rfl | (simp; done) | (simp_all; done) | (simp [List.take_add_one, *]; done) | grind [List.take_add_one]), hr_14⟩, by omega⟩
  · replace hc_4 := of_decide_eq_false hc_4
    refine WP_exit ?_
    refine T_x ?_
    refine T_x ?_
    refine B_x ?_
    refine T_n ?_
    refine WP_seq ?_
    refine WP_region ?_
    refine S_v E rfl (R_move E rfl) rfl ?_
    clear E a; intro a E
    have S0 := S; clear S
    obtain ⟨M_15, hM_15, hz_16, S⟩ := S0.freezeR hr3 RMp_mono (by (first | omega | (simp; omega)))
    clear S0
    replace h0 := h0.le (RSl_mono RP2_mono) hM_15
    refine S_x (X_pu E S rfl rfl rfl (lo_Assign hz_16 (by first | omega | exact Nat.le_trans (fl_mk _ _) (by first | omega | (simp; done)) | (simp; omega))) (Hp.le.refl _) ?_)
    clear E a S; rintro a v_18 w M_17 hM_17 ⟨q_19, hv_18, hkq_19⟩ S E
    replace h0 := h0.le (RSl_mono RP2_mono) hM_17
    replace hz_16 := hz_16.le RMp_mono hM_17
    refine S_x (X_pu E S rfl rfl rfl (impl_pairs hv_18 (by first | omega | (exact bigE _ l0 (by first | (rw [ixm_len]; exact Nat.le_refl _) | exact kpix_len _ _ _ | (rw [List.length_map]; exact Nat.le_refl _)) (by omega)) | exact Nat.le_trans (mkE_len _) (by omega) | (exact Nat.le_trans (lk_len (by assumption) (by assumption)) (by first | omega | exact Nat.le_trans (fl_mk _ _) (by omega))) | exact Nat.le_trans (mk_perm_len (by assumption)) (by omega) | exact Nat.le_trans (Nat.le_trans (lk_len (by assumption) (by assumption)) (mkl_len _ _)) (by omega) | (first | omega | (simp; omega) | (simp; done) | (simp_all; omega) | grind) | exact Nat.le_trans (upM_len _ _) (by omega) | exact Nat.le_trans (Nat.le_trans (lk_len (by assumption) (by assumption)) (flt_len _ _)) (by omega))) (Hp.le.refl _) ?_)
    clear E a S; rintro a v_21 w M_20 hM_20 hv_21 S E
    replace h0 := h0.le (RSl_mono RP2_mono) hM_20
    replace hz_16 := hz_16.le RMp_mono hM_20
    replace hv_18 := hv_18.le hM_20
    refine S_v E rfl (R_assign E rfl) rfl ?_
    clear E a; intro a E
    refine WL_nil ?_
    refine T_n ?_
    refine WP_ret ?_
    exact F_ret1 E Try.results59 rfl ⟨_, rfl, M_20, (hM_3.trans (hM_15.trans (hM_17.trans hM_20))), (by rw [show (entE (l0).flatten) = (srtK Prod.fst q_19) from by (exact asg_res (by assumption) (by assumption) (by omega))]; exact hv_21), S⟩

set_option maxRecDepth 100000 in
set_option maxHeartbeats 4000000 in
theorem laws_eqPairs {M : Hp} {v0 : Value} {l0 : List (Int × Int)} (h0 : RdS 2 RP2 M v0 l0) {v1 : Value} {l1 : List (Int × Int)} (h1 : RdS 2 RP2 M v1 l1) :
    Pu Try.prog (.func (.func 26) #[] #[]) M [v0, v1] (fun r M' => r = .bool (decide (l0 = l1))) := by
  refine Pu_enter Try.func26 rfl Try.ntmps26 rfl Try.call26 ?_
  intro a w M1 H hM1 S E
  replace h0 := h0.le RP2_mono hM1
  replace h1 := h1.le RP2_mono hM1
  have b0 := h0.bound
  have b1 := h1.bound
  refine WP_seq ?_
  refine WP_region ?_
  refine S_v E rfl (R_assign E rfl) rfl ?_
  clear E a; intro a E
  refine WL_nil ?_
  refine T_n ?_
  refine WP_seq ?_
  refine WP_seq ?_
  refine WP_region ?_
  refine S_v E rfl (R_move E rfl) rfl ?_
  clear E a; intro a E
  refine S_v E rfl (R_lenV E rfl T33 h0.len) rfl ?_
  clear E a; intro a E
  refine S_v E rfl (R_move E rfl) rfl ?_
  clear E a; intro a E
  refine S_v E rfl (R_lenV E rfl T33 h1.len) rfl ?_
  clear E a; intro a E
  refine S_v E rfl (R_neq E rfl rfl) rfl ?_
  clear E a; intro a E
  refine WL_nil ?_
  refine T_n ?_
  refine WP_cond E rfl (fun hc_1 => ?_) (fun hc_1 => ?_)
  · replace hc_1 := of_decide_eq_true hc_1
    refine WP_seq ?_
    refine WP_region ?_
    refine S_v E rfl (R_assign E rfl) rfl ?_
    clear E a; intro a E
    refine WL_nil ?_
    refine T_n ?_
    refine WP_ret ?_
    refine T_r ?_
    exact F_ret1 E Try.results26 rfl ⟨_, rfl, M1, (Hp.le.refl _), (bF (by (first | (simp; done) | exact eqp_no (by assumption) (by assumption) (p2_ne (by assumption)) | (have h9 : l0.take k = l1.take k := (by assumption); rwa [List.take_of_length_le (by omega), List.take_of_length_le (by omega)] at h9) | (intro h9; subst h9; omega) | (intro h9; subst h9; simp_all; done)))), S⟩
  · replace hc_1 := of_decide_eq_false hc_1
    refine WP_skip ?_
    refine T_n ?_
    refine WP_seq ?_
    refine WP_seq ?_
    refine WP_region ?_
    refine S_v E rfl (R_move E rfl) rfl ?_
    clear E a; intro a E
    refine S_v E rfl (R_lenV E rfl T33 h0.len) rfl ?_
    clear E a; intro a E
    refine S_v E rfl (R_move E rfl) rfl ?_
    clear E a; intro a E
    refine WL_nil ?_
    refine T_n ?_
    refine WP_block ?_
    refine WP_loop (γ := Nat) (fun (k : Nat) a w => ∃ (M_2 : Hp), Hp.le M1 M_2 ∧ St w M_2 (H) ∧ Env a 26 [] [(0, v0), (1, v1), (12, .int .i64 (((l0).length : Nat) : Int)), (13, .int .i64 ((k : Nat) : Int))] ∧ (k ≤ (l0).length) ∧ (l0.length = l1.length) ∧ (l0.take k = l1.take k)) (fun k => ((l0).length) - k) 0 ⟨M1, Hp.le.refl _, S, E.keep ⟨rfl, rfl, rfl, rfl, trivial⟩, by ((try clear S); (try clear E); first | assumption | omega | rfl | (simp; done) | (simp_all; done) | (simp [List.take_add_one, *]; done) | grind [List.take_add_one]), by ((try clear S); (try clear E); first | assumption | omega | rfl | (simp; done) | (simp_all; done) | (simp [List.take_add_one, *]; done) | grind [List.take_add_one]), by ((try clear S); (try clear E); first | assumption | omega | rfl | (simp; done) | (simp_all; done) | (simp [List.take_add_one, *]; done) | grind [List.take_add_one])⟩ ?_
    try clear E
    try clear S
    try clear a
    try clear w
    rintro k a w ⟨M_2, hM_2, S, E, hL0_0, hL0_1, hL0_2⟩
    replace h0 := h0.le RP2_mono hM_2
    replace h1 := h1.le RP2_mono hM_2
    refine WP_seq ?_
    refine WP_region ?_
    refine S_v E rfl (R_lss E rfl rfl) rfl ?_
    clear E a; intro a E
    refine WL_nil ?_
    refine T_n ?_
    refine WP_seq ?_
    refine WP_cond E rfl (fun hc_3 => ?_) (fun hc_3 => ?_)
    · replace hc_3 := of_decide_eq_true hc_3
      refine WP_skip ?_
      refine T_n ?_
      refine WP_seq ?_
      refine WP_block ?_
      refine WP_seq ?_
      refine WP_region ?_
      refine S_v E rfl (R_move E rfl) rfl ?_
      clear E a; intro a E
      refine S_v E rfl (R_assign E rfl) rfl ?_
      clear E a; intro a E
      refine WL_nil ?_
      refine T_n ?_
      refine WP_seq ?_
      replace S := S.mono_heap (w' := World.drew _) rfl
      refine WP_drawn (C := fun x w => agree M_2 w) (bf := (fun i => [])) [0, 1, 2, 3, 4, 5, 6, 7, 8] [0, 1, 2, 3, 4, 5, 6, 7, 8] Try.mixed (by kernel_rfl) (fun x hq => S.imm) ?_
      refine D_v E rfl rfl rfl (fun w hC => (R_move E rfl)) ?_
      clear E a; intro a E
      refine D_v E rfl rfl rfl (fun w hC => (R_move E rfl)) ?_
      clear E a; intro a E
      obtain ⟨x_4, hx_4⟩ : ∃ x, (l0)[k]? = some x := ⟨_, List.getElem?_eq_getElem (by first | omega | (simp; done) | (simp; omega) | (simp_all; omega))⟩
      obtain ⟨p_5, hp_5, qp_5⟩ := RdP2.at h0 hx_4
      refine D_v E rfl rfl rfl (fun w hC => (R_idx E rfl rfl T33 hp_5 rfl)) ?_
      clear E a; intro a E
      refine D_v E rfl rfl rfl (fun w hC => (R_loadA (cs := [.int .i64 x_4.1, .int .i64 x_4.2]) E rfl (Try.isAgg59 _) (Try.sizeOf59 _) hC qp_5)) ?_
      clear E a; intro a E
      refine D_v E rfl rfl rfl (fun w hC => (R_move E rfl)) ?_
      clear E a; intro a E
      refine D_v E rfl rfl rfl (fun w hC => (R_move E rfl)) ?_
      clear E a; intro a E
      obtain ⟨x_6, hx_6⟩ : ∃ x, (l1)[k]? = some x := ⟨_, List.getElem?_eq_getElem (by first | omega | (simp; done) | (simp; omega) | (simp_all; omega))⟩
      obtain ⟨p_7, hp_7, qp_7⟩ := RdP2.at h1 hx_6
      refine D_v E rfl rfl rfl (fun w hC => (R_idx E rfl rfl T33 hp_7 rfl)) ?_
      clear E a; intro a E
      refine D_v E rfl rfl rfl (fun w hC => (R_loadA (cs := [.int .i64 x_6.1, .int .i64 x_6.2]) E rfl (Try.isAgg59 _) (Try.sizeOf59 _) hC qp_7)) ?_
      clear E a; intro a E
      refine D_v E rfl rfl rfl (fun w hC => (R_neqA E rfl rfl (by kernel_rfl) (EQ59 x_4.1 x_4.2 x_6.1 x_6.2 _))) ?_
      clear E a; intro a E
      refine D_end (NoP_n ?_)
      refine T_n ?_
      refine WP_cond E rfl (fun hc_8 => ?_) (fun hc_8 => ?_)
      · replace hc_8 := of_decide_eq_true hc_8
        refine WP_seq ?_
        refine WP_region ?_
        refine S_v E rfl (R_assign E rfl) rfl ?_
        clear E a; intro a E
        refine WL_nil ?_
        refine T_n ?_
        refine WP_ret ?_
        refine B_r ?_
        refine T_r ?_
        refine T_r ?_
        refine B_r ?_
        refine T_r ?_
        exact F_ret1 E Try.results26 rfl ⟨_, rfl, M_2, hM_2, (bF (by (first | (simp; done) | exact eqp_no (by assumption) (by assumption) (p2_ne (by assumption)) | (have h9 : l0.take k = l1.take k := (by assumption); rwa [List.take_of_length_le (by omega), List.take_of_length_le (by omega)] at h9) | (intro h9; subst h9; omega) | (intro h9; subst h9; simp_all; done)))), S⟩
      · replace hc_8 := of_decide_eq_false hc_8
        refine WP_skip ?_
        refine B_n ?_
        refine T_n ?_
        refine WP_region ?_
        refine S_v E rfl (R_addx (m := ((k + 1 : Nat) : Int)) E rfl rfl (by omega) (by omega)) rfl ?_
        clear E a; intro a E
        refine S_v E rfl (R_move E rfl) rfl ?_
        clear E a; intro a E
        refine WL_nil ?_
        refine T_n ?_
        exact ⟨k + 1, ⟨M_2, hM_2, S, E.keep ⟨rfl, rfl, rfl, rfl, trivial⟩, by ((try clear S); (try clear E); first | assumption | omega | rfl | (simp; done) | (simp_all; done) | (simp [List.take_add_one, *]; done) | grind [List.take_add_one]), by ((try clear S); (try clear E); first | assumption | omega | rfl | (simp; done) | (simp_all; done) | (simp [List.take_add_one, *]; done) | grind [List.take_add_one]), (by exact eqp_step (by assumption) (by assumption) (by assumption) (p2_eq (by first | assumption | exact Decidable.not_not.1 (by assumption))))⟩, by omega⟩
    · replace hc_3 := of_decide_eq_false hc_3
      refine WP_exit ?_
      refine T_x ?_
      refine T_x ?_
      refine B_x ?_
      refine T_n ?_
      refine WP_seq ?_
      refine WP_region ?_
      refine S_v E rfl (R_assign E rfl) rfl ?_
      clear E a; intro a E
      refine WL_nil ?_
      refine T_n ?_
      refine WP_ret ?_
      exact F_ret1 E Try.results26 rfl ⟨_, rfl, M_2, hM_2, (bT (by (first | (simp; done) | exact eqp_no (by assumption) (by assumption) (p2_ne (by assumption)) | (have h9 : l0.take k = l1.take k := (by assumption); rwa [List.take_of_length_le (by omega), List.take_of_length_le (by omega)] at h9) | (intro h9; subst h9; omega) | (intro h9; subst h9; simp_all; done)))), S⟩

set_option maxRecDepth 100000 in
set_option maxHeartbeats 4000000 in
theorem laws_pairs {M : Hp} {v0 : Value} {l0 : List (Int × Int)} (h0 : RdS 2 RP2 M v0 l0) (hb : l0.length ≤ 1000000000000) :
    Pu Try.prog (.func (.func 64) #[] #[]) M [v0] (fun r M' => RdS 2 RP2 M' r l0) := by
  refine Pu_enter Try.func64 rfl Try.ntmps64 rfl Try.call64 ?_
  intro a w M1 H hM1 S E
  replace h0 := h0.le RP2_mono hM1
  have b0 := h0.bound
  refine WP_seq ?_
  refine WP_region ?_
  refine S_v E rfl (R_assign E rfl) rfl ?_
  clear E a; intro a E
  refine WL_nil ?_
  refine T_n ?_
  refine WP_seq ?_
  refine WP_region ?_
  refine S_v E rfl (R_assign E rfl) rfl ?_
  clear E a; intro a E
  refine WL_nil ?_
  refine T_n ?_
  refine WP_seq ?_
  refine WP_seq ?_
  refine WP_region ?_
  refine S_v E rfl (R_move E rfl) rfl ?_
  clear E a; intro a E
  refine S_v E rfl (R_lenV E rfl T33 h0.len) rfl ?_
  clear E a; intro a E
  refine S_v E rfl (R_move E rfl) rfl ?_
  clear E a; intro a E
  refine WL_nil ?_
  refine T_n ?_
  refine WP_block ?_
  replace S : St w M1 (OwnC 119 2 (.slice none 0 0) ([] : List (Int × Int)).length [] :: _) := S.ownNil
  have hr_2 : RowsR RP2 2 M1 ([] : List (Int × Int)) [] := RowsR.nil
  have hre : ([] : List (Int × Int)) = l0.take 0 := by first | rfl | (simp; done) | exact (tk_snoc (by assumption)).symm
  replace S := S.reR hre
  replace hr_2 := hr_2.eq hre
  clear hre
  refine WP_loop (γ := Nat) (fun (k : Nat) a w => ∃ (M_3 : Hp) (u3 : Value) (xs3 : List Value), Hp.le M1 M_3 ∧ St w M_3 (OwnC 119 2 u3 (l0.take k).length xs3 :: H) ∧ Env a 18 [] [(3, u3), (6, v0), (7, .int .i64 (((l0).length : Nat) : Int)), (8, .int .i64 ((k : Nat) : Int))] ∧ (k ≤ (l0).length) ∧ RowsR RP2 2 M_3 (l0.take k) xs3) (fun k => ((l0).length) - k) 0 ⟨M1, _, _, Hp.le.refl _, S, E.keep ⟨rfl, rfl, rfl, rfl, trivial⟩, by ((try clear S); (try clear E); first | assumption | omega | rfl | (simp; done) | (simp_all; done) | (simp [List.take_add_one, *]; done) | grind [List.take_add_one]), hr_2⟩ ?_
  try clear E
  try clear S
  try clear a
  try clear w
  rintro k a w ⟨M_3, u3, xs3, hM_3, S, E, hL0_0, hr3⟩
  replace h0 := h0.le RP2_mono hM_3
  refine WP_seq ?_
  refine WP_region ?_
  refine S_v E rfl (R_lss E rfl rfl) rfl ?_
  clear E a; intro a E
  refine WL_nil ?_
  refine T_n ?_
  refine WP_seq ?_
  refine WP_cond E rfl (fun hc_4 => ?_) (fun hc_4 => ?_)
  · replace hc_4 := of_decide_eq_true hc_4
    refine WP_skip ?_
    refine T_n ?_
    refine WP_seq ?_
    refine WP_block ?_
    refine WP_seq ?_
    refine WP_region ?_
    obtain ⟨x_5, hx_5⟩ : ∃ x, (l0)[k]? = some x := ⟨_, List.getElem?_eq_getElem (by first | omega | (simp; done) | (simp; omega) | (simp_all; omega))⟩
    obtain ⟨p_6, hp_6, qp_6⟩ := RdP2.at h0 hx_5
    refine S_v E rfl (R_idx E rfl rfl T33 hp_6 rfl) rfl ?_
    clear E a; intro a E
    refine S_v E rfl (R_loadA (cs := [.int .i64 x_5.1, .int .i64 x_5.2]) E rfl (Try.isAgg59 _) (Try.sizeOf59 _) S.imm qp_6) rfl ?_
    clear E a; intro a E
    refine S_x (X_alloc (cs := #[.int .i64 0, .int .i64 0]) E S rfl Try.zeroValue59 rfl ?_)
    clear E a S; rintro a w b_7 E S
    refine S_x0 (X_storeG (us := [.int .i64 x_5.1, .int .i64 x_5.2]) E S rfl rfl (Try.sizeOf59 _) rfl (by intro u hu; simp only [List.mem_cons, List.not_mem_nil, or_false] at hu; rcases hu with rfl | rfl <;> first | exact rfl | exact rfl) ?_)
    clear E a S; rintro a w E S
    replace S : St w M_3 (blk b_7 (.cells #[.int .i64 x_5.1, .int .i64 x_5.2] 59) :: _) := S
    have S0 := S; clear S
    obtain ⟨M_8, hM_8, hb_9, S⟩ := S0.freezeB
    clear S0
    replace h0 := h0.le RP2_mono hM_8
    replace hr3 := hr3.le RP2_mono hM_8
    refine WL_nil ?_
    refine T_n ?_
    refine WP_region ?_
    refine S_v E rfl (R_move E rfl) rfl ?_
    clear E a; intro a E
    refine S_v E rfl (R_loadGM E rfl (Try.isAgg59 _) (Try.sizeOf59 _) S.imm hb_9) rfl ?_
    clear E a; intro a E
    refine S_x (X_buildA1 (R := RP2) (cs := [.int .i64 x_5.1, .int .i64 x_5.2]) (x0 := x_5) RP2_mono E S rfl T61 rfl rfl rfl rfl ?_)
    clear E a S; rintro a v_10 w M_11 hM_11 hv_10 S E
    replace h0 := h0.le RP2_mono hM_11
    replace hr3 := hr3.le RP2_mono hM_11
    replace hb_9 := hM_11.2 _ _ hb_9
    refine S_x (X_appendR (R := RP2) (zs := l0.take k) (ys := [x_5]) E S hr3 rfl rfl rfl T61 hv_10 one_RP2 (by first | omega | (simp; done) | (simp; omega) | (simp_all; omega)) (by first | omega | (simp; done) | (simp; omega) | (simp_all; omega)) ?_)
    clear E a S; rintro a w v_12 xs_13 E hr_14 S
    refine S_v E rfl (R_assign E rfl) rfl ?_
    clear E a; intro a E
    refine WL_nil ?_
    refine B_n ?_
    refine T_n ?_
    refine WP_region ?_
    refine S_v E rfl (R_addx (m := ((k + 1 : Nat) : Int)) E rfl rfl (by omega) (by omega)) rfl ?_
    clear E a; intro a E
    refine S_v E rfl (R_move E rfl) rfl ?_
    clear E a; intro a E
    refine WL_nil ?_
    refine T_n ?_
    have hre : (l0.take k) ++ [x_5] = l0.take (k + 1) := by first | rfl | (simp; done) | exact (tk_snoc (by assumption)).symm
    replace S := S.reR hre
    replace hr_14 := hr_14.eq hre
    clear hre
    exact ⟨k + 1, ⟨M_11, _, _, (hM_3.trans (hM_8.trans hM_11)), S, E.keep ⟨rfl, rfl, rfl, rfl, trivial⟩, by ((try clear S); (try clear E); first | assumption | omega | rfl | (simp; done) | (simp_all; done) | (simp [List.take_add_one, *]; done) | grind [List.take_add_one]), hr_14⟩, by omega⟩
  · replace hc_4 := of_decide_eq_false hc_4
    refine WP_exit ?_
    refine T_x ?_
    refine T_x ?_
    refine B_x ?_
    refine T_n ?_
    refine WP_seq ?_
    refine WP_region ?_
    refine S_v E rfl (R_move E rfl) rfl ?_
    clear E a; intro a E
    refine S_v E rfl (R_assign E rfl) rfl ?_
    clear E a; intro a E
    refine WL_nil ?_
    refine T_n ?_
    refine WP_ret ?_
    have S0 := S; clear S
    obtain ⟨M_15, hM_15, hz_16, S⟩ := S0.freezeR hr3 RP2_mono (by (first | omega | (simp; omega)))
    clear S0
    replace h0 := h0.le RP2_mono hM_15
    exact F_ret1 E Try.results64 rfl ⟨_, rfl, M_15, (hM_3.trans hM_15), (by rw [show l0 = (l0.take k) from by (rw [List.take_of_length_le (by omega)])]; exact hz_16), S⟩

set_option maxRecDepth 100000 in
set_option maxHeartbeats 4000000 in
theorem spec_Entries {M : Hp} {v0 : Value} {l0 : List (Int × Int)} (h0 : RdS 2 RP2 M v0 l0) (hb : l0.length ≤ 1000000000000) :
    Pu Try.prog (.func (.func 120) #[] #[]) M [v0] (fun r M' => RdS 2 RP2 M' r (entE l0)) := by
  refine Pu_enter Try.func120 rfl Try.ntmps120 rfl Try.call120 ?_
  intro a w M1 H hM1 S E
  replace h0 := h0.le RP2_mono hM1
  have b0 := h0.bound
  refine WP_seq ?_
  refine WP_region ?_
  refine S_v E rfl (R_assign E rfl) rfl ?_
  clear E a; intro a E
  refine WL_nil ?_
  refine T_n ?_
  refine WP_seq ?_
  refine WP_region ?_
  refine S_v E rfl (R_assign E rfl) rfl ?_
  clear E a; intro a E
  refine WL_nil ?_
  refine T_n ?_
  refine WP_seq ?_
  refine WP_seq ?_
  refine WP_region ?_
  refine S_v E rfl (R_move E rfl) rfl ?_
  clear E a; intro a E
  refine S_v E rfl (R_lenV E rfl T61 h0.len) rfl ?_
  clear E a; intro a E
  refine S_v E rfl (R_move E rfl) rfl ?_
  clear E a; intro a E
  refine WL_nil ?_
  refine T_n ?_
  refine WP_block ?_
  refine WP_loop (γ := Nat) (fun (k : Nat) a w => ∃ (M_1 : Hp) (u3 : Value), Hp.le M1 M_1 ∧ St w M_1 (H) ∧ Env a 67 [] [(0, v0), (3, u3), (10, v0), (11, .int .i64 (((l0).length : Nat) : Int)), (12, .int .i64 ((k : Nat) : Int))] ∧ (k ≤ (l0).length) ∧ RdS 2 RP2 M_1 u3 (srtK Prod.fst (lastsT (l0.drop k) (l0.take k)))) (fun k => ((l0).length) - k) 0 ⟨M1, _, Hp.le.refl _, S, E.keep ⟨rfl, rfl, rfl, rfl, rfl, trivial⟩, by ((try clear S); (try clear E); first | assumption | omega | rfl | (simp; done) | (simp_all; done) | (simp [List.take_add_one, *]; done) | grind [List.take_add_one]), (SLeqR (RdS.nil _) (by simp [lastsT, srtK]))⟩ ?_
  try clear E
  try clear S
  try clear a
  try clear w
  rintro k a w ⟨M_1, u3, hM_1, S, E, hL0_0, hs3_0⟩
  replace h0 := h0.le RP2_mono hM_1
  have hll := lastsT_len (l0.drop k) (l0.take k)
  rw [List.length_take] at hll
  have hsl := srtK_len Prod.fst (lastsT (l0.drop k) (l0.take k))
  refine WP_seq ?_
  refine WP_region ?_
  refine S_v E rfl (R_lss E rfl rfl) rfl ?_
  clear E a; intro a E
  refine WL_nil ?_
  refine T_n ?_
  refine WP_seq ?_
  refine WP_cond E rfl (fun hc_2 => ?_) (fun hc_2 => ?_)
  · replace hc_2 := of_decide_eq_true hc_2
    refine WP_skip ?_
    refine T_n ?_
    refine WP_seq ?_
    refine WP_block ?_
    refine WP_seq ?_
    refine WP_region ?_
    refine S_v E rfl (R_move E rfl) rfl ?_
    clear E a; intro a E
    obtain ⟨x_3, hx_3⟩ : ∃ x, (l0)[k]? = some x := ⟨_, List.getElem?_eq_getElem (by first | omega | (simp; done) | (simp; omega) | (simp_all; omega))⟩
    obtain ⟨p_4, hp_4, qp_4⟩ := RdP2.at h0 hx_3
    refine S_v E rfl (R_idx E rfl rfl T61 hp_4 rfl) rfl ?_
    clear E a; intro a E
    refine S_v E rfl (R_loadA (cs := [.int .i64 x_3.1, .int .i64 x_3.2]) E rfl (Try.isAgg119 _) (Try.sizeOf119 _) S.imm qp_4) rfl ?_
    clear E a; intro a E
    refine S_x (X_alloc (cs := #[.int .i64 0, .int .i64 0]) E S rfl Try.zeroValue119 rfl ?_)
    clear E a S; rintro a w b_5 E S
    refine S_v E rfl (R_assign E rfl) rfl ?_
    clear E a; intro a E
    refine S_x0 (X_storeG (us := [.int .i64 x_3.1, .int .i64 x_3.2]) E S rfl rfl (Try.sizeOf119 _) rfl (by intro u hu; simp only [List.mem_cons, List.not_mem_nil, or_false] at hu; rcases hu with rfl | rfl <;> first | exact rfl | exact rfl) ?_)
    clear E a S; rintro a w E S
    replace S : St w M_1 (blk b_5 (.cells #[.int .i64 x_3.1, .int .i64 x_3.2] 119) :: _) := S
    have S0 := S; clear S
    obtain ⟨M_6, hM_6, hb_7, S⟩ := S0.freezeB
    clear S0
    replace h0 := h0.le RP2_mono hM_6
    replace hs3_0 := hs3_0.le RP2_mono hM_6
    refine WL_nil ?_
    refine T_n ?_
    refine WP_seq ?_
    refine WP_region ?_
    refine S_v E rfl (R_assign E rfl) rfl ?_
    clear E a; intro a E
    refine WL_nil ?_
    refine T_n ?_
    refine WP_seq ?_
    refine WP_seq ?_
    refine WP_region ?_
    refine S_v E rfl (R_move E rfl) rfl ?_
    clear E a; intro a E
    refine S_v E rfl (R_move E rfl) rfl ?_
    clear E a; intro a E
    refine S_v E rfl (R_addx (m := ((k + 1 : Nat) : Int)) E rfl rfl (by omega) (by omega)) rfl ?_
    clear E a; intro a E
    obtain ⟨v_8, sv_8, hv_8⟩ := h0.subv (k + 1) ((l0).length) (by first | omega | (simp; done) | (simp; omega) | (simp_all; omega)) (by first | omega | (simp; done) | (simp; omega) | (simp_all; omega))
    simp only [List.take_length] at hv_8
    refine S_v E rfl (R_sliceL E rfl rfl T61 h0.len sv_8 (by omega)) rfl ?_
    clear E a; intro a E
    refine S_v E rfl (R_lenV E rfl T61 hv_8.len) rfl ?_
    clear E a; intro a E
    refine S_v E rfl (R_move E rfl) rfl ?_
    clear E a; intro a E
    refine WL_nil ?_
    refine T_n ?_
    refine WP_block ?_
    refine WP_loop (γ := Nat) (fun (j : Nat) a w => ∃ (M_9 : Hp), Hp.le M_6 M_9 ∧ St w M_9 (H) ∧ Env a 67 [] [(0, v0), (3, u3), (5, .pointer (some ⟨b_5, 0, none⟩)), (6, .bool (!decide (x_3.1 ∈ ((l0.drop (k + 1)).take j).map Prod.fst))), (10, v0), (11, .int .i64 (((l0).length : Nat) : Int)), (12, .int .i64 ((k : Nat) : Int)), (20, v_8), (21, .int .i64 ((((l0).drop (k + 1)).length : Nat) : Int)), (22, .int .i64 ((j : Nat) : Int))] ∧ (j ≤ ((l0).drop (k + 1)).length)) (fun j => (((l0).drop (k + 1)).length) - j) 0 ⟨M_6, Hp.le.refl _, S, E.keep ⟨rfl, rfl, rfl, look_bool (i := true) rfl (by (simp)), rfl, rfl, rfl, rfl, rfl, rfl, trivial⟩, by ((try clear S); (try clear E); first | assumption | omega | rfl | (simp; done) | (simp_all; done) | (simp [List.take_add_one, *]; done) | grind [List.take_add_one])⟩ ?_
    try clear E
    try clear S
    try clear a
    try clear w
    rintro j a w ⟨M_9, hM_9, S, E, hL1_0⟩
    replace h0 := h0.le RP2_mono hM_9
    replace hs3_0 := hs3_0.le RP2_mono hM_9
    replace hb_7 := hM_9.2 _ _ hb_7
    replace hv_8 := hv_8.le RP2_mono hM_9
    have hdl : (l0.drop (k + 1)).length = l0.length - (k + 1) := List.length_drop
    refine WP_seq ?_
    refine WP_region ?_
    refine S_v E rfl (R_lss E rfl rfl) rfl ?_
    clear E a; intro a E
    refine WL_nil ?_
    refine T_n ?_
    refine WP_seq ?_
    refine WP_cond E rfl (fun hc_10 => ?_) (fun hc_10 => ?_)
    · replace hc_10 := of_decide_eq_true hc_10
      refine WP_skip ?_
      refine T_n ?_
      refine WP_seq ?_
      refine WP_block ?_
      refine WP_seq ?_
      refine WP_region ?_
      obtain ⟨x_11, hx_11⟩ : ∃ x, ((l0).drop (k + 1))[j]? = some x := ⟨_, List.getElem?_eq_getElem (by first | omega | (simp; done) | (simp; omega) | (simp_all; omega))⟩
      obtain ⟨p_12, hp_12, qp_12⟩ := RdP2.at hv_8 hx_11
      refine S_v E rfl (R_idx E rfl rfl T61 hp_12 rfl) rfl ?_
      clear E a; intro a E
      refine S_v E rfl (R_loadA (cs := [.int .i64 x_11.1, .int .i64 x_11.2]) E rfl (Try.isAgg119 _) (Try.sizeOf119 _) S.imm qp_12) rfl ?_
      clear E a; intro a E
      refine S_x (X_alloc (cs := #[.int .i64 0, .int .i64 0]) E S rfl Try.zeroValue119 rfl ?_)
      clear E a S; rintro a w b_13 E S
      refine S_x0 (X_storeG (us := [.int .i64 x_11.1, .int .i64 x_11.2]) E S rfl rfl (Try.sizeOf119 _) rfl (by intro u hu; simp only [List.mem_cons, List.not_mem_nil, or_false] at hu; rcases hu with rfl | rfl <;> first | exact rfl | exact rfl) ?_)
      clear E a S; rintro a w E S
      replace S : St w M_9 (blk b_13 (.cells #[.int .i64 x_11.1, .int .i64 x_11.2] 119) :: _) := S
      have S0 := S; clear S
      obtain ⟨M_14, hM_14, hb_15, S⟩ := S0.freezeB
      clear S0
      replace h0 := h0.le RP2_mono hM_14
      replace hs3_0 := hs3_0.le RP2_mono hM_14
      replace hb_7 := hM_14.2 _ _ hb_7
      replace hv_8 := hv_8.le RP2_mono hM_14
      refine WL_nil ?_
      refine T_n ?_
      refine WP_region ?_
      refine S_v E rfl (R_move E rfl) rfl ?_
      clear E a; intro a E
      refine S_v E rfl (R_move E rfl) rfl ?_
      clear E a; intro a E
      refine split_bool (!decide (x_3.1 ∈ ((l0.drop (k + 1)).take j).map Prod.fst)) (fun hc_16 => ?_) (fun hc_16 => ?_)
      · replace E := E.val (t := 6) rfl hc_16
        replace E := E.val (t := 26) rfl hc_16
        replace E := E.val (t := 27) rfl hc_16
        refine WL_guard_yes E rfl rfl ?_
        refine S_v E rfl (R_fieldAddr E rfl (FA119_0 _)) rfl ?_
        clear E a; intro a E
        refine WL_guard_yes E rfl rfl ?_
        refine S_v E rfl (R_loadM E rfl Try.isAgg3 S.imm (cellM_boxo hb_15 rfl)) rfl ?_
        clear E a; intro a E
        refine WL_guard_yes E rfl rfl ?_
        refine S_v E rfl (R_fieldAddr E rfl (FA119_0 _)) rfl ?_
        clear E a; intro a E
        refine WL_guard_yes E rfl rfl ?_
        refine S_v E rfl (R_loadM E rfl Try.isAgg3 S.imm (cellM_boxo hb_7 rfl)) rfl ?_
        clear E a; intro a E
        refine WL_guard_yes E rfl rfl ?_
        refine S_v E rfl (R_neq E rfl rfl) rfl ?_
        clear E a; intro a E
        refine S_v E rfl (R_pickT E rfl rfl) rfl ?_
        clear E a; intro a E
        refine S_v E rfl (R_assign E rfl) rfl ?_
        clear E a; intro a E
        refine WL_nil ?_
        refine B_n ?_
        refine T_n ?_
        refine WP_region ?_
        refine S_v E rfl (R_addx (m := ((j + 1 : Nat) : Int)) E rfl rfl (by omega) (by omega)) rfl ?_
        clear E a; intro a E
        refine S_v E rfl (R_move E rfl) rfl ?_
        clear E a; intro a E
        refine WL_nil ?_
        refine T_n ?_
        exact ⟨j + 1, ⟨M_14, (hM_9.trans hM_14), S, E.keep ⟨rfl, rfl, rfl, look_bool (i := decide (x_11.1 ≠ x_3.1)) rfl (by (first | exact lst_y (by assumption) (by assumption) | exact lst_n (by assumption) (by assumption))), rfl, rfl, rfl, rfl, rfl, rfl, trivial⟩, by ((try clear S); (try clear E); first | assumption | omega | rfl | (simp; done) | (simp_all; done) | (simp [List.take_add_one, *]; done) | grind [List.take_add_one])⟩, by omega⟩
      · replace E := E.val (t := 6) rfl hc_16
        replace E := E.val (t := 26) rfl hc_16
        replace E := E.val (t := 27) rfl hc_16
        refine WL_guard_no E rfl rfl rfl rfl fun a E => ?_
        refine WL_guard_no E rfl rfl rfl rfl fun a E => ?_
        refine WL_guard_no E rfl rfl rfl rfl fun a E => ?_
        refine WL_guard_no E rfl rfl rfl rfl fun a E => ?_
        refine WL_guard_no E rfl rfl rfl rfl fun a E => ?_
        refine S_v E rfl (R_pickF E rfl rfl) rfl ?_
        clear E a; intro a E
        refine S_v E rfl (R_assign E rfl) rfl ?_
        clear E a; intro a E
        refine WL_nil ?_
        refine B_n ?_
        refine T_n ?_
        refine WP_region ?_
        refine S_v E rfl (R_addx (m := ((j + 1 : Nat) : Int)) E rfl rfl (by omega) (by omega)) rfl ?_
        clear E a; intro a E
        refine S_v E rfl (R_move E rfl) rfl ?_
        clear E a; intro a E
        refine WL_nil ?_
        refine T_n ?_
        exact ⟨j + 1, ⟨M_14, (hM_9.trans hM_14), S, E.keep ⟨rfl, rfl, rfl, look_bool (i := false) rfl (by (first | exact lst_y (by assumption) (by assumption) | exact lst_n (by assumption) (by assumption))), rfl, rfl, rfl, rfl, rfl, rfl, trivial⟩, by ((try clear S); (try clear E); first | assumption | omega | rfl | (simp; done) | (simp_all; done) | (simp [List.take_add_one, *]; done) | grind [List.take_add_one])⟩, by omega⟩
    · replace hc_10 := of_decide_eq_false hc_10
      refine WP_exit ?_
      refine T_x ?_
      refine T_x ?_
      refine B_x ?_
      refine T_n ?_
      refine WP_seq ?_
      refine WP_seq ?_
      refine WP_region ?_
      refine S_v E rfl (R_move E rfl) rfl ?_
      clear E a; intro a E
      refine S_v E rfl (R_not E rfl) rfl ?_
      clear E a; intro a E
      refine WL_nil ?_
      refine T_n ?_
      refine WP_cond E rfl (fun hc_17 => ?_) (fun hc_17 => ?_)
      · refine WP_exit ?_
        refine T_x ?_
        refine B_x ?_
        refine T_n ?_
        refine WP_region ?_
        refine S_v E rfl (R_addx (m := ((k + 1 : Nat) : Int)) E rfl rfl (by omega) (by omega)) rfl ?_
        clear E a; intro a E
        refine S_v E rfl (R_move E rfl) rfl ?_
        clear E a; intro a E
        refine WL_nil ?_
        refine T_n ?_
        exact ⟨k + 1, ⟨M_9, _, (hM_1.trans (hM_6.trans hM_9)), S, E.keep ⟨rfl, rfl, rfl, rfl, rfl, trivial⟩, by ((try clear S); (try clear E); first | assumption | omega | rfl | (simp; done) | (simp_all; done) | (simp [List.take_add_one, *]; done) | grind [List.take_add_one]), (SLeqR hs3_0 (by first | exact ent_skip (by assumption) (in_all (by assumption) (by assumption)) | exact ent_put (by assumption) (in_none (by assumption) (by assumption)) (by assumption) (by first | exact gt_len (by assumption) | exact gt_at (by assumption) (by assumption))))⟩, by omega⟩
      · refine WP_skip ?_
        refine T_n ?_
        refine WP_seq ?_
        refine WP_region ?_
        refine S_v E rfl (R_assign E rfl) rfl ?_
        clear E a; intro a E
        refine WL_nil ?_
        refine T_n ?_
        refine WP_seq ?_
        refine WP_block ?_
        refine WP_loop (γ := Nat) (fun (n : Nat) a w => ∃ (M_18 : Hp), Hp.le M_9 M_18 ∧ St w M_18 (H) ∧ Env a 67 [] [(0, v0), (3, u3), (5, .pointer (some ⟨b_5, 0, none⟩)), (9, .int .i64 ((n : Nat) : Int)), (10, v0), (11, .int .i64 (((l0).length : Nat) : Int)), (12, .int .i64 ((k : Nat) : Int))] ∧ (n ≤ (srtK Prod.fst (lastsT (l0.drop k) (l0.take k))).length) ∧ (∀ q ∈ (srtK Prod.fst (lastsT (l0.drop k) (l0.take k))).take n, q.1 < x_3.1)) (fun n => (srtK Prod.fst (lastsT (l0.drop k) (l0.take k))).length - n) 0 ⟨M_9, Hp.le.refl _, S, E.keep ⟨rfl, rfl, rfl, rfl, rfl, rfl, rfl, trivial⟩, (by omega), (by simp)⟩ ?_
        try clear E
        try clear S
        try clear a
        try clear w
        rintro n a w ⟨M_18, hM_18, S, E, hL2_0, hL2_1⟩
        replace h0 := h0.le RP2_mono hM_18
        replace hs3_0 := hs3_0.le RP2_mono hM_18
        replace hb_7 := hM_18.2 _ _ hb_7
        replace hv_8 := hv_8.le RP2_mono hM_18
        refine WP_seq ?_
        refine WP_seq ?_
        have hb_7k18 := hb_7
        replace S := S.mono_heap (w' := World.drew _) rfl
        refine WP_drawn (C := fun x w => agree M_18 w) (bf := (fun i => [])) [0, 1, 2, 3, 4, 5, 6, 7, 8, 9, 10, 11, 12, 13] [0, 1, 2, 3, 4, 5, 6, 7, 8, 9, 10, 11, 12, 13] Try.mixed (by kernel_rfl) (fun x hq => S.imm) ?_
        refine D_v E rfl rfl rfl (fun w hC => (R_move E rfl)) ?_
        clear E a; intro a E
        refine D_v E rfl rfl rfl (fun w hC => (R_move E rfl)) ?_
        clear E a; intro a E
        refine D_v E rfl rfl rfl (fun w hC => (R_lenV E rfl T61 hs3_0.len)) ?_
        clear E a; intro a E
        refine D_v E rfl rfl rfl (fun w hC => (R_lss E rfl rfl)) ?_
        clear E a; intro a E
        refine D_v E rfl rfl rfl (fun w hC => (R_move E rfl)) ?_
        clear E a; intro a E
        refine split_bool (decide (((n : Nat) : Int) < (((srtK Prod.fst (lastsT (l0.drop k) (l0.take k))).length : Nat) : Int))) (fun hc_19 => ?_) (fun hc_19 => ?_)
        · replace E := E.val (t := 40) rfl hc_19
          replace E := E.val (t := 41) rfl hc_19
          replace hc_19 := of_decide_eq_true hc_19
          refine D_vyes E rfl rfl rfl rfl rfl (fun w hC => (R_move E rfl)) ?_
          clear E a; intro a E
          refine D_vyes E rfl rfl rfl rfl rfl (fun w hC => (R_move E rfl)) ?_
          clear E a; intro a E
          obtain ⟨x_20, hx_20⟩ : ∃ x, (srtK Prod.fst (lastsT (l0.drop k) (l0.take k)))[n]? = some x := ⟨_, List.getElem?_eq_getElem (by first | omega | (simp; done) | (simp; omega) | (simp_all; omega))⟩
          obtain ⟨p_21, hp_21, qp_21⟩ := RdP2.at hs3_0 hx_20
          refine D_vyes E rfl rfl rfl rfl rfl (fun w hC => (R_idx E rfl rfl T61 hp_21 rfl)) ?_
          clear E a; intro a E
          have qf_22 := qp_21 0 _ rfl
          refine D_vyes E rfl rfl rfl rfl rfl (fun w hC => (R_fieldAddr E rfl (FA119_0 _))) ?_
          clear E a; intro a E
          refine D_vyes E rfl rfl rfl rfl rfl (fun w hC => (R_loadM E rfl Try.isAgg3 hC qf_22)) ?_
          clear E a; intro a E
          refine D_vyes E rfl rfl rfl rfl rfl (fun w hC => (R_fieldAddr E rfl (FA119_0 _))) ?_
          clear E a; intro a E
          refine D_vyes E rfl rfl rfl rfl rfl (fun w hC => (R_loadM E rfl Try.isAgg3 hC (cellM_boxo hb_7k18 rfl))) ?_
          clear E a; intro a E
          refine D_vyes E rfl rfl rfl rfl rfl (fun w hC => (R_lss E rfl rfl)) ?_
          clear E a; intro a E
          refine D_v E rfl rfl rfl (fun w hC => (R_pickT E rfl rfl)) ?_
          clear E a; intro a E
          refine D_end (NoP_n ?_)
          refine T_n ?_
          refine WP_cond E rfl (fun hc_23 => ?_) (fun hc_23 => ?_)
          · replace hc_23 := of_decide_eq_true hc_23
            refine WP_skip ?_
            refine T_n ?_
            refine WP_block ?_
            refine WP_region ?_
            refine S_v E rfl (R_move E rfl) rfl ?_
            clear E a; intro a E
            refine S_v E rfl (R_addx (m := ((n + 1 : Nat) : Int)) E rfl rfl (by omega) (by omega)) rfl ?_
            clear E a; intro a E
            refine S_v E rfl (R_assign E rfl) rfl ?_
            clear E a; intro a E
            refine WL_nil ?_
            refine B_n ?_
            refine T_n ?_
            exact ⟨n + 1, ⟨M_18, hM_18, S, E.keep ⟨rfl, rfl, rfl, rfl, rfl, rfl, rfl, trivial⟩, (by omega), (by exact lt_snoc (by assumption) (by assumption) (by assumption))⟩, by omega⟩
          · replace hc_23 := of_decide_eq_false hc_23
            refine WP_exit ?_
            refine T_x ?_
            refine T_x ?_
            refine B_x ?_
            refine T_n ?_
            refine DG_start Try.mixed ?_
            refine DG_split 0 6 (by decide) (by kernel_rfl) ?_ ?_
            · refine DG_split 4 6 (by decide) (by kernel_rfl) ?_ ?_
              · have hb_7k23 := hb_7
                have qp_21k23 := qp_21
                have qf_22k23 := qf_22
                replace S := S.mono_heap (w' := World.drew _) rfl
                refine DG_end (C := fun x w => agree M_18 w) (bf := (fun i => [])) [1, 2, 3, 5, 8, 9, 10, 12] [1, 2, 3, 5, 8, 9, 10, 0, 4, 6, 7, 11, 12] (by kernel_rfl) (fun x hq => S.imm) ?_
                refine D_v E rfl rfl rfl (fun w hC => (R_move E rfl)) ?_
                clear E a; intro a E
                refine D_v E rfl rfl rfl (fun w hC => (R_move E rfl)) ?_
                clear E a; intro a E
                obtain ⟨v_24, sv_24, hv_24⟩ := hs3_0.subv 0 n (by first | omega | (simp; done) | (simp; omega) | (simp_all; omega)) (by first | omega | (simp; done) | (simp; omega) | (simp_all; omega))
                simp only [List.drop_zero] at hv_24
                refine D_v E rfl rfl rfl (fun w hC => (R_sliceH E rfl rfl T61 sv_24 (by omega))) ?_
                clear E a; intro a E
                refine D_v E rfl rfl rfl (fun w hC => (R_loadGM E rfl (Try.isAgg119 _) (Try.sizeOf119 _) hC hb_7k23)) ?_
                clear E a; intro a E
                refine D_v E rfl rfl rfl (fun w hC => (R_move E rfl)) ?_
                clear E a; intro a E
                refine D_v E rfl rfl rfl (fun w hC => (R_move E rfl)) ?_
                clear E a; intro a E
                obtain ⟨v_25, sv_25, hv_25⟩ := hs3_0.subv n ((srtK Prod.fst (lastsT (l0.drop k) (l0.take k))).length) (by first | omega | (simp; done) | (simp; omega) | (simp_all; omega)) (by first | omega | (simp; done) | (simp; omega) | (simp_all; omega))
                simp only [List.take_length] at hv_25
                refine D_v E rfl rfl rfl (fun w hC => (R_sliceL E rfl rfl T61 hs3_0.len sv_25 (by omega))) ?_
                clear E a; intro a E
                refine D_x rfl rfl rfl (X_buildA0 E S rfl T61 ?_)
                clear E a S; rintro a w v_26 E S
                have hr_27 : RowsR RP2 2 M_18 ([] : List (Int × Int)) [] := RowsR.nil
                replace S : St w M_18 (OwnC 119 2 v_26 ([] : List (Int × Int)).length [] :: _) := S
                refine ⟨fun x hq hb => (agree_le (Hp.le.refl _) S.imm), ?_⟩
                refine D_x rfl rfl rfl (X_appendR (R := RP2) (zs := ([] : List (Int × Int))) (ys := (srtK Prod.fst (lastsT (l0.drop k) (l0.take k))).take n) E S hr_27 rfl rfl rfl T61 hv_24 one_RP2 (by first | omega | (simp; done) | (simp; omega) | (simp_all; omega)) (by first | omega | (simp; done) | (simp; omega) | (simp_all; omega)) ?_)
                clear E a S; rintro a w v_28 xs_29 E hr_30 S
                refine ⟨fun x hq hb => (agree_le (Hp.le.refl _) S.imm), ?_⟩
                refine D_x rfl rfl rfl (X_buildA1 (R := RP2) (cs := [.int .i64 x_3.1, .int .i64 x_3.2]) (x0 := x_3) RP2_mono E S rfl T61 rfl rfl rfl rfl ?_)
                clear E a S; rintro a v_31 w M_32 hM_32 hv_31 S E
                replace h0 := h0.le RP2_mono hM_32
                replace hs3_0 := hs3_0.le RP2_mono hM_32
                replace hb_7 := hM_32.2 _ _ hb_7
                replace hv_8 := hv_8.le RP2_mono hM_32
                replace qp_21 := cellsM_le hM_32 qp_21
                replace hv_24 := hv_24.le RP2_mono hM_32
                replace hv_25 := hv_25.le RP2_mono hM_32
                replace hr_30 := hr_30.le RP2_mono hM_32
                refine ⟨fun x hq hb => (agree_le hM_32 S.imm), ?_⟩
                refine D_x rfl rfl rfl (X_appendR (R := RP2) (zs := ([] : List (Int × Int)) ++ ((srtK Prod.fst (lastsT (l0.drop k) (l0.take k))).take n)) (ys := [x_3]) E S hr_30 rfl rfl rfl T61 hv_31 one_RP2 (by first | omega | (simp; done) | (simp; omega) | (simp_all; omega)) (by first | omega | (simp; done) | (simp; omega) | (simp_all; omega)) ?_)
                clear E a S; rintro a w v_33 xs_34 E hr_35 S
                refine ⟨fun x hq hb => (agree_le hM_32 S.imm), ?_⟩
                refine D_x rfl rfl rfl (X_appendR (R := RP2) (zs := (([] : List (Int × Int)) ++ ((srtK Prod.fst (lastsT (l0.drop k) (l0.take k))).take n)) ++ [x_3]) (ys := (srtK Prod.fst (lastsT (l0.drop k) (l0.take k))).drop n) E S hr_35 rfl rfl rfl T61 hv_25 one_RP2 (by first | omega | (simp; done) | (simp; omega) | (simp_all; omega)) (by first | omega | (simp; done) | (simp; omega) | (simp_all; omega)) ?_)
                clear E a S; rintro a w v_36 xs_37 E hr_38 S
                refine ⟨fun x hq hb => (agree_le hM_32 S.imm), ?_⟩
                refine D_v E rfl rfl rfl (fun w hC => (R_assign E rfl)) ?_
                clear E a; intro a E
                refine D_end (NoP_n ?_)
                refine B_n ?_
                refine T_n ?_
                refine WP_region ?_
                refine S_v E rfl (R_addx (m := ((k + 1 : Nat) : Int)) E rfl rfl (by omega) (by omega)) rfl ?_
                clear E a; intro a E
                refine S_v E rfl (R_move E rfl) rfl ?_
                clear E a; intro a E
                refine WL_nil ?_
                refine T_n ?_
                have S0 := S; clear S
                obtain ⟨M_39, hM_39, hz_40, S⟩ := S0.freezeR hr_38 RP2_mono (by (first | omega | (simp; omega) | (simp; done) | (simp_all; omega) | grind))
                clear S0
                replace h0 := h0.le RP2_mono hM_39
                replace hs3_0 := hs3_0.le RP2_mono hM_39
                replace hb_7 := hM_39.2 _ _ hb_7
                replace hv_8 := hv_8.le RP2_mono hM_39
                replace qp_21 := cellsM_le hM_39 qp_21
                replace hv_24 := hv_24.le RP2_mono hM_39
                replace hv_25 := hv_25.le RP2_mono hM_39
                replace hv_31 := hv_31.le RP2_mono hM_39
                exact ⟨k + 1, ⟨M_39, _, (hM_1.trans (hM_6.trans (hM_9.trans (hM_18.trans (hM_32.trans hM_39))))), S, E.keep ⟨rfl, rfl, rfl, rfl, rfl, trivial⟩, by ((try clear S); (try clear E); first | assumption | omega | rfl | (simp; done) | (simp_all; done) | (simp [List.take_add_one, *]; done) | grind [List.take_add_one]), (SLeqR hz_40 (by first | exact ent_skip (by assumption) (in_all (by assumption) (by assumption)) | exact ent_put (by assumption) (in_none (by assumption) (by assumption)) (by assumption) (by first | exact gt_len (by assumption) | exact gt_at (by assumption) (by assumption))))⟩, by omega⟩
              · have hb_7k40 := hb_7
                have qp_21k40 := qp_21
                have qf_22k40 := qf_22
                replace S := S.mono_heap (w' := World.drew _) rfl
                refine DG_end (C := fun x w => agree M_18 w) (bf := (fun i => [])) [1, 2, 3, 5, 8, 9, 10, 12] [1, 2, 3, 5, 8, 9, 10, 0, 6, 4, 7, 11, 12] (by kernel_rfl) (fun x hq => S.imm) ?_
                refine D_v E rfl rfl rfl (fun w hC => (R_move E rfl)) ?_
                clear E a; intro a E
                refine D_v E rfl rfl rfl (fun w hC => (R_move E rfl)) ?_
                clear E a; intro a E
                obtain ⟨v_41, sv_41, hv_41⟩ := hs3_0.subv 0 n (by first | omega | (simp; done) | (simp; omega) | (simp_all; omega)) (by first | omega | (simp; done) | (simp; omega) | (simp_all; omega))
                simp only [List.drop_zero] at hv_41
                refine D_v E rfl rfl rfl (fun w hC => (R_sliceH E rfl rfl T61 sv_41 (by omega))) ?_
                clear E a; intro a E
                refine D_v E rfl rfl rfl (fun w hC => (R_loadGM E rfl (Try.isAgg119 _) (Try.sizeOf119 _) hC hb_7k40)) ?_
                clear E a; intro a E
                refine D_v E rfl rfl rfl (fun w hC => (R_move E rfl)) ?_
                clear E a; intro a E
                refine D_v E rfl rfl rfl (fun w hC => (R_move E rfl)) ?_
                clear E a; intro a E
                obtain ⟨v_42, sv_42, hv_42⟩ := hs3_0.subv n ((srtK Prod.fst (lastsT (l0.drop k) (l0.take k))).length) (by first | omega | (simp; done) | (simp; omega) | (simp_all; omega)) (by first | omega | (simp; done) | (simp; omega) | (simp_all; omega))
                simp only [List.take_length] at hv_42
                refine D_v E rfl rfl rfl (fun w hC => (R_sliceL E rfl rfl T61 hs3_0.len sv_42 (by omega))) ?_
                clear E a; intro a E
                refine D_x rfl rfl rfl (X_buildA0 E S rfl T61 ?_)
                clear E a S; rintro a w v_43 E S
                have hr_44 : RowsR RP2 2 M_18 ([] : List (Int × Int)) [] := RowsR.nil
                replace S : St w M_18 (OwnC 119 2 v_43 ([] : List (Int × Int)).length [] :: _) := S
                refine ⟨fun x hq hb => (agree_le (Hp.le.refl _) S.imm), ?_⟩
                refine D_x rfl rfl rfl (X_buildA1 (R := RP2) (cs := [.int .i64 x_3.1, .int .i64 x_3.2]) (x0 := x_3) RP2_mono E S rfl T61 rfl rfl rfl rfl ?_)
                clear E a S; rintro a v_45 w M_46 hM_46 hv_45 S E
                replace h0 := h0.le RP2_mono hM_46
                replace hs3_0 := hs3_0.le RP2_mono hM_46
                replace hb_7 := hM_46.2 _ _ hb_7
                replace hv_8 := hv_8.le RP2_mono hM_46
                replace qp_21 := cellsM_le hM_46 qp_21
                replace hv_41 := hv_41.le RP2_mono hM_46
                replace hv_42 := hv_42.le RP2_mono hM_46
                replace hr_44 := hr_44.le RP2_mono hM_46
                refine ⟨fun x hq hb => (agree_le hM_46 S.imm), ?_⟩
                refine D_x rfl rfl rfl (X_appendR (R := RP2) (zs := ([] : List (Int × Int))) (ys := (srtK Prod.fst (lastsT (l0.drop k) (l0.take k))).take n) E S hr_44 rfl rfl rfl T61 hv_41 one_RP2 (by first | omega | (simp; done) | (simp; omega) | (simp_all; omega)) (by first | omega | (simp; done) | (simp; omega) | (simp_all; omega)) ?_)
                clear E a S; rintro a w v_47 xs_48 E hr_49 S
                refine ⟨fun x hq hb => (agree_le hM_46 S.imm), ?_⟩
                refine D_x rfl rfl rfl (X_appendR (R := RP2) (zs := ([] : List (Int × Int)) ++ ((srtK Prod.fst (lastsT (l0.drop k) (l0.take k))).take n)) (ys := [x_3]) E S hr_49 rfl rfl rfl T61 hv_45 one_RP2 (by first | omega | (simp; done) | (simp; omega) | (simp_all; omega)) (by first | omega | (simp; done) | (simp; omega) | (simp_all; omega)) ?_)
                clear E a S; rintro a w v_50 xs_51 E hr_52 S
                refine ⟨fun x hq hb => (agree_le hM_46 S.imm), ?_⟩
                refine D_x rfl rfl rfl (X_appendR (R := RP2) (zs := (([] : List (Int × Int)) ++ ((srtK Prod.fst (lastsT (l0.drop k) (l0.take k))).take n)) ++ [x_3]) (ys := (srtK Prod.fst (lastsT (l0.drop k) (l0.take k))).drop n) E S hr_52 rfl rfl rfl T61 hv_42 one_RP2 (by first | omega | (simp; done) | (simp; omega) | (simp_all; omega)) (by first | omega | (simp; done) | (simp; omega) | (simp_all; omega)) ?_)
                clear E a S; rintro a w v_53 xs_54 E hr_55 S
                refine ⟨fun x hq hb => (agree_le hM_46 S.imm), ?_⟩
                refine D_v E rfl rfl rfl (fun w hC => (R_assign E rfl)) ?_
                clear E a; intro a E
                refine D_end (NoP_n ?_)
                refine B_n ?_
                refine T_n ?_
                refine WP_region ?_
                refine S_v E rfl (R_addx (m := ((k + 1 : Nat) : Int)) E rfl rfl (by omega) (by omega)) rfl ?_
                clear E a; intro a E
                refine S_v E rfl (R_move E rfl) rfl ?_
                clear E a; intro a E
                refine WL_nil ?_
                refine T_n ?_
                have S0 := S; clear S
                obtain ⟨M_56, hM_56, hz_57, S⟩ := S0.freezeR hr_55 RP2_mono (by (first | omega | (simp; omega) | (simp; done) | (simp_all; omega) | grind))
                clear S0
                replace h0 := h0.le RP2_mono hM_56
                replace hs3_0 := hs3_0.le RP2_mono hM_56
                replace hb_7 := hM_56.2 _ _ hb_7
                replace hv_8 := hv_8.le RP2_mono hM_56
                replace qp_21 := cellsM_le hM_56 qp_21
                replace hv_41 := hv_41.le RP2_mono hM_56
                replace hv_42 := hv_42.le RP2_mono hM_56
                replace hv_45 := hv_45.le RP2_mono hM_56
                exact ⟨k + 1, ⟨M_56, _, (hM_1.trans (hM_6.trans (hM_9.trans (hM_18.trans (hM_46.trans hM_56))))), S, E.keep ⟨rfl, rfl, rfl, rfl, rfl, trivial⟩, by ((try clear S); (try clear E); first | assumption | omega | rfl | (simp; done) | (simp_all; done) | (simp [List.take_add_one, *]; done) | grind [List.take_add_one]), (SLeqR hz_57 (by first | exact ent_skip (by assumption) (in_all (by assumption) (by assumption)) | exact ent_put (by assumption) (in_none (by assumption) (by assumption)) (by assumption) (by first | exact gt_len (by assumption) | exact gt_at (by assumption) (by assumption))))⟩, by omega⟩
            · have hb_7k57 := hb_7
              have qp_21k57 := qp_21
              have qf_22k57 := qf_22
              replace S := S.mono_heap (w' := World.drew _) rfl
              refine DG_end (C := fun x w => agree M_18 w) (bf := (fun i => [])) [1, 2, 3, 5, 8, 9, 10, 12] [1, 2, 3, 5, 8, 9, 10, 6, 0, 4, 7, 11, 12] (by kernel_rfl) (fun x hq => S.imm) ?_
              refine D_v E rfl rfl rfl (fun w hC => (R_move E rfl)) ?_
              clear E a; intro a E
              refine D_v E rfl rfl rfl (fun w hC => (R_move E rfl)) ?_
              clear E a; intro a E
              obtain ⟨v_58, sv_58, hv_58⟩ := hs3_0.subv 0 n (by first | omega | (simp; done) | (simp; omega) | (simp_all; omega)) (by first | omega | (simp; done) | (simp; omega) | (simp_all; omega))
              simp only [List.drop_zero] at hv_58
              refine D_v E rfl rfl rfl (fun w hC => (R_sliceH E rfl rfl T61 sv_58 (by omega))) ?_
              clear E a; intro a E
              refine D_v E rfl rfl rfl (fun w hC => (R_loadGM E rfl (Try.isAgg119 _) (Try.sizeOf119 _) hC hb_7k57)) ?_
              clear E a; intro a E
              refine D_v E rfl rfl rfl (fun w hC => (R_move E rfl)) ?_
              clear E a; intro a E
              refine D_v E rfl rfl rfl (fun w hC => (R_move E rfl)) ?_
              clear E a; intro a E
              obtain ⟨v_59, sv_59, hv_59⟩ := hs3_0.subv n ((srtK Prod.fst (lastsT (l0.drop k) (l0.take k))).length) (by first | omega | (simp; done) | (simp; omega) | (simp_all; omega)) (by first | omega | (simp; done) | (simp; omega) | (simp_all; omega))
              simp only [List.take_length] at hv_59
              refine D_v E rfl rfl rfl (fun w hC => (R_sliceL E rfl rfl T61 hs3_0.len sv_59 (by omega))) ?_
              clear E a; intro a E
              refine D_x rfl rfl rfl (X_buildA1 (R := RP2) (cs := [.int .i64 x_3.1, .int .i64 x_3.2]) (x0 := x_3) RP2_mono E S rfl T61 rfl rfl rfl rfl ?_)
              clear E a S; rintro a v_60 w M_61 hM_61 hv_60 S E
              replace h0 := h0.le RP2_mono hM_61
              replace hs3_0 := hs3_0.le RP2_mono hM_61
              replace hb_7 := hM_61.2 _ _ hb_7
              replace hv_8 := hv_8.le RP2_mono hM_61
              replace qp_21 := cellsM_le hM_61 qp_21
              replace hv_58 := hv_58.le RP2_mono hM_61
              replace hv_59 := hv_59.le RP2_mono hM_61
              refine ⟨fun x hq hb => (agree_le hM_61 S.imm), ?_⟩
              refine D_x rfl rfl rfl (X_buildA0 E S rfl T61 ?_)
              clear E a S; rintro a w v_62 E S
              have hr_63 : RowsR RP2 2 M_61 ([] : List (Int × Int)) [] := RowsR.nil
              replace S : St w M_61 (OwnC 119 2 v_62 ([] : List (Int × Int)).length [] :: _) := S
              refine ⟨fun x hq hb => (agree_le hM_61 S.imm), ?_⟩
              refine D_x rfl rfl rfl (X_appendR (R := RP2) (zs := ([] : List (Int × Int))) (ys := (srtK Prod.fst (lastsT (l0.drop k) (l0.take k))).take n) E S hr_63 rfl rfl rfl T61 hv_58 one_RP2 (by first | omega | (simp; done) | (simp; omega) | (simp_all; omega)) (by first | omega | (simp; done) | (simp; omega) | (simp_all; omega)) ?_)
              clear E a S; rintro a w v_64 xs_65 E hr_66 S
              refine ⟨fun x hq hb => (agree_le hM_61 S.imm), ?_⟩
              refine D_x rfl rfl rfl (X_appendR (R := RP2) (zs := ([] : List (Int × Int)) ++ ((srtK Prod.fst (lastsT (l0.drop k) (l0.take k))).take n)) (ys := [x_3]) E S hr_66 rfl rfl rfl T61 hv_60 one_RP2 (by first | omega | (simp; done) | (simp; omega) | (simp_all; omega)) (by first | omega | (simp; done) | (simp; omega) | (simp_all; omega)) ?_)
              clear E a S; rintro a w v_67 xs_68 E hr_69 S
              refine ⟨fun x hq hb => (agree_le hM_61 S.imm), ?_⟩
              refine D_x rfl rfl rfl (X_appendR (R := RP2) (zs := (([] : List (Int × Int)) ++ ((srtK Prod.fst (lastsT (l0.drop k) (l0.take k))).take n)) ++ [x_3]) (ys := (srtK Prod.fst (lastsT (l0.drop k) (l0.take k))).drop n) E S hr_69 rfl rfl rfl T61 hv_59 one_RP2 (by first | omega | (simp; done) | (simp; omega) | (simp_all; omega)) (by first | omega | (simp; done) | (simp; omega) | (simp_all; omega)) ?_)
              clear E a S; rintro a w v_70 xs_71 E hr_72 S
              refine ⟨fun x hq hb => (agree_le hM_61 S.imm), ?_⟩
              refine D_v E rfl rfl rfl (fun w hC => (R_assign E rfl)) ?_
              clear E a; intro a E
              refine D_end (NoP_n ?_)
              refine B_n ?_
              refine T_n ?_
              refine WP_region ?_
              refine S_v E rfl (R_addx (m := ((k + 1 : Nat) : Int)) E rfl rfl (by omega) (by omega)) rfl ?_
              clear E a; intro a E
              refine S_v E rfl (R_move E rfl) rfl ?_
              clear E a; intro a E
              refine WL_nil ?_
              refine T_n ?_
              have S0 := S; clear S
              obtain ⟨M_73, hM_73, hz_74, S⟩ := S0.freezeR hr_72 RP2_mono (by (first | omega | (simp; omega) | (simp; done) | (simp_all; omega) | grind))
              clear S0
              replace h0 := h0.le RP2_mono hM_73
              replace hs3_0 := hs3_0.le RP2_mono hM_73
              replace hb_7 := hM_73.2 _ _ hb_7
              replace hv_8 := hv_8.le RP2_mono hM_73
              replace qp_21 := cellsM_le hM_73 qp_21
              replace hv_58 := hv_58.le RP2_mono hM_73
              replace hv_59 := hv_59.le RP2_mono hM_73
              replace hv_60 := hv_60.le RP2_mono hM_73
              exact ⟨k + 1, ⟨M_73, _, (hM_1.trans (hM_6.trans (hM_9.trans (hM_18.trans (hM_61.trans hM_73))))), S, E.keep ⟨rfl, rfl, rfl, rfl, rfl, trivial⟩, by ((try clear S); (try clear E); first | assumption | omega | rfl | (simp; done) | (simp_all; done) | (simp [List.take_add_one, *]; done) | grind [List.take_add_one]), (SLeqR hz_74 (by first | exact ent_skip (by assumption) (in_all (by assumption) (by assumption)) | exact ent_put (by assumption) (in_none (by assumption) (by assumption)) (by assumption) (by first | exact gt_len (by assumption) | exact gt_at (by assumption) (by assumption))))⟩, by omega⟩
        · replace E := E.val (t := 40) rfl hc_19
          replace E := E.val (t := 41) rfl hc_19
          replace hc_19 := of_decide_eq_false hc_19
          refine D_no E rfl rfl rfl rfl rfl fun a E => ?_
          refine D_no E rfl rfl rfl rfl rfl fun a E => ?_
          refine D_no E rfl rfl rfl rfl rfl fun a E => ?_
          refine D_no E rfl rfl rfl rfl rfl fun a E => ?_
          refine D_no E rfl rfl rfl rfl rfl fun a E => ?_
          refine D_no E rfl rfl rfl rfl rfl fun a E => ?_
          refine D_no E rfl rfl rfl rfl rfl fun a E => ?_
          refine D_no E rfl rfl rfl rfl rfl fun a E => ?_
          refine D_v E rfl rfl rfl (fun w hC => (R_pickF E rfl rfl)) ?_
          clear E a; intro a E
          refine D_end (NoP_n ?_)
          refine T_n ?_
          refine WP_condF E rfl rfl ?_
          refine WP_exit ?_
          refine T_x ?_
          refine T_x ?_
          refine B_x ?_
          refine T_n ?_
          refine DG_start Try.mixed ?_
          refine DG_split 0 6 (by decide) (by kernel_rfl) ?_ ?_
          · refine DG_split 4 6 (by decide) (by kernel_rfl) ?_ ?_
            · have hb_7k74 := hb_7
              replace S := S.mono_heap (w' := World.drew _) rfl
              refine DG_end (C := fun x w => agree M_18 w) (bf := (fun i => [])) [1, 2, 3, 5, 8, 9, 10, 12] [1, 2, 3, 5, 8, 9, 10, 0, 4, 6, 7, 11, 12] (by kernel_rfl) (fun x hq => S.imm) ?_
              refine D_v E rfl rfl rfl (fun w hC => (R_move E rfl)) ?_
              clear E a; intro a E
              refine D_v E rfl rfl rfl (fun w hC => (R_move E rfl)) ?_
              clear E a; intro a E
              obtain ⟨v_75, sv_75, hv_75⟩ := hs3_0.subv 0 n (by first | omega | (simp; done) | (simp; omega) | (simp_all; omega)) (by first | omega | (simp; done) | (simp; omega) | (simp_all; omega))
              simp only [List.drop_zero] at hv_75
              refine D_v E rfl rfl rfl (fun w hC => (R_sliceH E rfl rfl T61 sv_75 (by omega))) ?_
              clear E a; intro a E
              refine D_v E rfl rfl rfl (fun w hC => (R_loadGM E rfl (Try.isAgg119 _) (Try.sizeOf119 _) hC hb_7k74)) ?_
              clear E a; intro a E
              refine D_v E rfl rfl rfl (fun w hC => (R_move E rfl)) ?_
              clear E a; intro a E
              refine D_v E rfl rfl rfl (fun w hC => (R_move E rfl)) ?_
              clear E a; intro a E
              obtain ⟨v_76, sv_76, hv_76⟩ := hs3_0.subv n ((srtK Prod.fst (lastsT (l0.drop k) (l0.take k))).length) (by first | omega | (simp; done) | (simp; omega) | (simp_all; omega)) (by first | omega | (simp; done) | (simp; omega) | (simp_all; omega))
              simp only [List.take_length] at hv_76
              refine D_v E rfl rfl rfl (fun w hC => (R_sliceL E rfl rfl T61 hs3_0.len sv_76 (by omega))) ?_
              clear E a; intro a E
              refine D_x rfl rfl rfl (X_buildA0 E S rfl T61 ?_)
              clear E a S; rintro a w v_77 E S
              have hr_78 : RowsR RP2 2 M_18 ([] : List (Int × Int)) [] := RowsR.nil
              replace S : St w M_18 (OwnC 119 2 v_77 ([] : List (Int × Int)).length [] :: _) := S
              refine ⟨fun x hq hb => (agree_le (Hp.le.refl _) S.imm), ?_⟩
              refine D_x rfl rfl rfl (X_appendR (R := RP2) (zs := ([] : List (Int × Int))) (ys := (srtK Prod.fst (lastsT (l0.drop k) (l0.take k))).take n) E S hr_78 rfl rfl rfl T61 hv_75 one_RP2 (by first | omega | (simp; done) | (simp; omega) | (simp_all; omega)) (by first | omega | (simp; done) | (simp; omega) | (simp_all; omega)) ?_)
              clear E a S; rintro a w v_79 xs_80 E hr_81 S
              refine ⟨fun x hq hb => (agree_le (Hp.le.refl _) S.imm), ?_⟩
              refine D_x rfl rfl rfl (X_buildA1 (R := RP2) (cs := [.int .i64 x_3.1, .int .i64 x_3.2]) (x0 := x_3) RP2_mono E S rfl T61 rfl rfl rfl rfl ?_)
              clear E a S; rintro a v_82 w M_83 hM_83 hv_82 S E
              replace h0 := h0.le RP2_mono hM_83
              replace hs3_0 := hs3_0.le RP2_mono hM_83
              replace hb_7 := hM_83.2 _ _ hb_7
              replace hv_8 := hv_8.le RP2_mono hM_83
              replace hv_75 := hv_75.le RP2_mono hM_83
              replace hv_76 := hv_76.le RP2_mono hM_83
              replace hr_81 := hr_81.le RP2_mono hM_83
              refine ⟨fun x hq hb => (agree_le hM_83 S.imm), ?_⟩
              refine D_x rfl rfl rfl (X_appendR (R := RP2) (zs := ([] : List (Int × Int)) ++ ((srtK Prod.fst (lastsT (l0.drop k) (l0.take k))).take n)) (ys := [x_3]) E S hr_81 rfl rfl rfl T61 hv_82 one_RP2 (by first | omega | (simp; done) | (simp; omega) | (simp_all; omega)) (by first | omega | (simp; done) | (simp; omega) | (simp_all; omega)) ?_)
              clear E a S; rintro a w v_84 xs_85 E hr_86 S
              refine ⟨fun x hq hb => (agree_le hM_83 S.imm), ?_⟩
              refine D_x rfl rfl rfl (X_appendR (R := RP2) (zs := (([] : List (Int × Int)) ++ ((srtK Prod.fst (lastsT (l0.drop k) (l0.take k))).take n)) ++ [x_3]) (ys := (srtK Prod.fst (lastsT (l0.drop k) (l0.take k))).drop n) E S hr_86 rfl rfl rfl T61 hv_76 one_RP2 (by first | omega | (simp; done) | (simp; omega) | (simp_all; omega)) (by first | omega | (simp; done) | (simp; omega) | (simp_all; omega)) ?_)
              clear E a S; rintro a w v_87 xs_88 E hr_89 S
              refine ⟨fun x hq hb => (agree_le hM_83 S.imm), ?_⟩
              refine D_v E rfl rfl rfl (fun w hC => (R_assign E rfl)) ?_
              clear E a; intro a E
              refine D_end (NoP_n ?_)
              refine B_n ?_
              refine T_n ?_
              refine WP_region ?_
              refine S_v E rfl (R_addx (m := ((k + 1 : Nat) : Int)) E rfl rfl (by omega) (by omega)) rfl ?_
              clear E a; intro a E
              refine S_v E rfl (R_move E rfl) rfl ?_
              clear E a; intro a E
              refine WL_nil ?_
              refine T_n ?_
              have S0 := S; clear S
              obtain ⟨M_90, hM_90, hz_91, S⟩ := S0.freezeR hr_89 RP2_mono (by (first | omega | (simp; omega) | (simp; done) | (simp_all; omega) | grind))
              clear S0
              replace h0 := h0.le RP2_mono hM_90
              replace hs3_0 := hs3_0.le RP2_mono hM_90
              replace hb_7 := hM_90.2 _ _ hb_7
              replace hv_8 := hv_8.le RP2_mono hM_90
              replace hv_75 := hv_75.le RP2_mono hM_90
              replace hv_76 := hv_76.le RP2_mono hM_90
              replace hv_82 := hv_82.le RP2_mono hM_90
              exact ⟨k + 1, ⟨M_90, _, (hM_1.trans (hM_6.trans (hM_9.trans (hM_18.trans (hM_83.trans hM_90))))), S, E.keep ⟨rfl, rfl, rfl, rfl, rfl, trivial⟩, by ((try clear S); (try clear E); first | assumption | omega | rfl | (simp; done) | (simp_all; done) | (simp [List.take_add_one, *]; done) | grind [List.take_add_one]), (SLeqR hz_91 (by first | exact ent_skip (by assumption) (in_all (by assumption) (by assumption)) | exact ent_put (by assumption) (in_none (by assumption) (by assumption)) (by assumption) (by first | exact gt_len (by assumption) | exact gt_at (by assumption) (by assumption))))⟩, by omega⟩
            · have hb_7k91 := hb_7
              replace S := S.mono_heap (w' := World.drew _) rfl
              refine DG_end (C := fun x w => agree M_18 w) (bf := (fun i => [])) [1, 2, 3, 5, 8, 9, 10, 12] [1, 2, 3, 5, 8, 9, 10, 0, 6, 4, 7, 11, 12] (by kernel_rfl) (fun x hq => S.imm) ?_
              refine D_v E rfl rfl rfl (fun w hC => (R_move E rfl)) ?_
              clear E a; intro a E
              refine D_v E rfl rfl rfl (fun w hC => (R_move E rfl)) ?_
              clear E a; intro a E
              obtain ⟨v_92, sv_92, hv_92⟩ := hs3_0.subv 0 n (by first | omega | (simp; done) | (simp; omega) | (simp_all; omega)) (by first | omega | (simp; done) | (simp; omega) | (simp_all; omega))
              simp only [List.drop_zero] at hv_92
              refine D_v E rfl rfl rfl (fun w hC => (R_sliceH E rfl rfl T61 sv_92 (by omega))) ?_
              clear E a; intro a E
              refine D_v E rfl rfl rfl (fun w hC => (R_loadGM E rfl (Try.isAgg119 _) (Try.sizeOf119 _) hC hb_7k91)) ?_
              clear E a; intro a E
              refine D_v E rfl rfl rfl (fun w hC => (R_move E rfl)) ?_
              clear E a; intro a E
              refine D_v E rfl rfl rfl (fun w hC => (R_move E rfl)) ?_
              clear E a; intro a E
              obtain ⟨v_93, sv_93, hv_93⟩ := hs3_0.subv n ((srtK Prod.fst (lastsT (l0.drop k) (l0.take k))).length) (by first | omega | (simp; done) | (simp; omega) | (simp_all; omega)) (by first | omega | (simp; done) | (simp; omega) | (simp_all; omega))
              simp only [List.take_length] at hv_93
              refine D_v E rfl rfl rfl (fun w hC => (R_sliceL E rfl rfl T61 hs3_0.len sv_93 (by omega))) ?_
              clear E a; intro a E
              refine D_x rfl rfl rfl (X_buildA0 E S rfl T61 ?_)
              clear E a S; rintro a w v_94 E S
              have hr_95 : RowsR RP2 2 M_18 ([] : List (Int × Int)) [] := RowsR.nil
              replace S : St w M_18 (OwnC 119 2 v_94 ([] : List (Int × Int)).length [] :: _) := S
              refine ⟨fun x hq hb => (agree_le (Hp.le.refl _) S.imm), ?_⟩
              refine D_x rfl rfl rfl (X_buildA1 (R := RP2) (cs := [.int .i64 x_3.1, .int .i64 x_3.2]) (x0 := x_3) RP2_mono E S rfl T61 rfl rfl rfl rfl ?_)
              clear E a S; rintro a v_96 w M_97 hM_97 hv_96 S E
              replace h0 := h0.le RP2_mono hM_97
              replace hs3_0 := hs3_0.le RP2_mono hM_97
              replace hb_7 := hM_97.2 _ _ hb_7
              replace hv_8 := hv_8.le RP2_mono hM_97
              replace hv_92 := hv_92.le RP2_mono hM_97
              replace hv_93 := hv_93.le RP2_mono hM_97
              replace hr_95 := hr_95.le RP2_mono hM_97
              refine ⟨fun x hq hb => (agree_le hM_97 S.imm), ?_⟩
              refine D_x rfl rfl rfl (X_appendR (R := RP2) (zs := ([] : List (Int × Int))) (ys := (srtK Prod.fst (lastsT (l0.drop k) (l0.take k))).take n) E S hr_95 rfl rfl rfl T61 hv_92 one_RP2 (by first | omega | (simp; done) | (simp; omega) | (simp_all; omega)) (by first | omega | (simp; done) | (simp; omega) | (simp_all; omega)) ?_)
              clear E a S; rintro a w v_98 xs_99 E hr_100 S
              refine ⟨fun x hq hb => (agree_le hM_97 S.imm), ?_⟩
              refine D_x rfl rfl rfl (X_appendR (R := RP2) (zs := ([] : List (Int × Int)) ++ ((srtK Prod.fst (lastsT (l0.drop k) (l0.take k))).take n)) (ys := [x_3]) E S hr_100 rfl rfl rfl T61 hv_96 one_RP2 (by first | omega | (simp; done) | (simp; omega) | (simp_all; omega)) (by first | omega | (simp; done) | (simp; omega) | (simp_all; omega)) ?_)
              clear E a S; rintro a w v_101 xs_102 E hr_103 S
              refine ⟨fun x hq hb => (agree_le hM_97 S.imm), ?_⟩
              refine D_x rfl rfl rfl (X_appendR (R := RP2) (zs := (([] : List (Int × Int)) ++ ((srtK Prod.fst (lastsT (l0.drop k) (l0.take k))).take n)) ++ [x_3]) (ys := (srtK Prod.fst (lastsT (l0.drop k) (l0.take k))).drop n) E S hr_103 rfl rfl rfl T61 hv_93 one_RP2 (by first | omega | (simp; done) | (simp; omega) | (simp_all; omega)) (by first | omega | (simp; done) | (simp; omega) | (simp_all; omega)) ?_)
              clear E a S; rintro a w v_104 xs_105 E hr_106 S
              refine ⟨fun x hq hb => (agree_le hM_97 S.imm), ?_⟩
              refine D_v E rfl rfl rfl (fun w hC => (R_assign E rfl)) ?_
              clear E a; intro a E
              refine D_end (NoP_n ?_)
              refine B_n ?_
              refine T_n ?_
              refine WP_region ?_
              refine S_v E rfl (R_addx (m := ((k + 1 : Nat) : Int)) E rfl rfl (by omega) (by omega)) rfl ?_
              clear E a; intro a E
              refine S_v E rfl (R_move E rfl) rfl ?_
              clear E a; intro a E
              refine WL_nil ?_
              refine T_n ?_
              have S0 := S; clear S
              obtain ⟨M_107, hM_107, hz_108, S⟩ := S0.freezeR hr_106 RP2_mono (by (first | omega | (simp; omega) | (simp; done) | (simp_all; omega) | grind))
              clear S0
              replace h0 := h0.le RP2_mono hM_107
              replace hs3_0 := hs3_0.le RP2_mono hM_107
              replace hb_7 := hM_107.2 _ _ hb_7
              replace hv_8 := hv_8.le RP2_mono hM_107
              replace hv_92 := hv_92.le RP2_mono hM_107
              replace hv_93 := hv_93.le RP2_mono hM_107
              replace hv_96 := hv_96.le RP2_mono hM_107
              exact ⟨k + 1, ⟨M_107, _, (hM_1.trans (hM_6.trans (hM_9.trans (hM_18.trans (hM_97.trans hM_107))))), S, E.keep ⟨rfl, rfl, rfl, rfl, rfl, trivial⟩, by ((try clear S); (try clear E); first | assumption | omega | rfl | (simp; done) | (simp_all; done) | (simp [List.take_add_one, *]; done) | grind [List.take_add_one]), (SLeqR hz_108 (by first | exact ent_skip (by assumption) (in_all (by assumption) (by assumption)) | exact ent_put (by assumption) (in_none (by assumption) (by assumption)) (by assumption) (by first | exact gt_len (by assumption) | exact gt_at (by assumption) (by assumption))))⟩, by omega⟩
          · have hb_7k108 := hb_7
            replace S := S.mono_heap (w' := World.drew _) rfl
            refine DG_end (C := fun x w => agree M_18 w) (bf := (fun i => [])) [1, 2, 3, 5, 8, 9, 10, 12] [1, 2, 3, 5, 8, 9, 10, 6, 0, 4, 7, 11, 12] (by kernel_rfl) (fun x hq => S.imm) ?_
            refine D_v E rfl rfl rfl (fun w hC => (R_move E rfl)) ?_
            clear E a; intro a E
            refine D_v E rfl rfl rfl (fun w hC => (R_move E rfl)) ?_
            clear E a; intro a E
            obtain ⟨v_109, sv_109, hv_109⟩ := hs3_0.subv 0 n (by first | omega | (simp; done) | (simp; omega) | (simp_all; omega)) (by first | omega | (simp; done) | (simp; omega) | (simp_all; omega))
            simp only [List.drop_zero] at hv_109
            refine D_v E rfl rfl rfl (fun w hC => (R_sliceH E rfl rfl T61 sv_109 (by omega))) ?_
            clear E a; intro a E
            refine D_v E rfl rfl rfl (fun w hC => (R_loadGM E rfl (Try.isAgg119 _) (Try.sizeOf119 _) hC hb_7k108)) ?_
            clear E a; intro a E
            refine D_v E rfl rfl rfl (fun w hC => (R_move E rfl)) ?_
            clear E a; intro a E
            refine D_v E rfl rfl rfl (fun w hC => (R_move E rfl)) ?_
            clear E a; intro a E
            obtain ⟨v_110, sv_110, hv_110⟩ := hs3_0.subv n ((srtK Prod.fst (lastsT (l0.drop k) (l0.take k))).length) (by first | omega | (simp; done) | (simp; omega) | (simp_all; omega)) (by first | omega | (simp; done) | (simp; omega) | (simp_all; omega))
            simp only [List.take_length] at hv_110
            refine D_v E rfl rfl rfl (fun w hC => (R_sliceL E rfl rfl T61 hs3_0.len sv_110 (by omega))) ?_
            clear E a; intro a E
            refine D_x rfl rfl rfl (X_buildA1 (R := RP2) (cs := [.int .i64 x_3.1, .int .i64 x_3.2]) (x0 := x_3) RP2_mono E S rfl T61 rfl rfl rfl rfl ?_)
            clear E a S; rintro a v_111 w M_112 hM_112 hv_111 S E
            replace h0 := h0.le RP2_mono hM_112
            replace hs3_0 := hs3_0.le RP2_mono hM_112
            replace hb_7 := hM_112.2 _ _ hb_7
            replace hv_8 := hv_8.le RP2_mono hM_112
            replace hv_109 := hv_109.le RP2_mono hM_112
            replace hv_110 := hv_110.le RP2_mono hM_112
            refine ⟨fun x hq hb => (agree_le hM_112 S.imm), ?_⟩
            refine D_x rfl rfl rfl (X_buildA0 E S rfl T61 ?_)
            clear E a S; rintro a w v_113 E S
            have hr_114 : RowsR RP2 2 M_112 ([] : List (Int × Int)) [] := RowsR.nil
            replace S : St w M_112 (OwnC 119 2 v_113 ([] : List (Int × Int)).length [] :: _) := S
            refine ⟨fun x hq hb => (agree_le hM_112 S.imm), ?_⟩
            refine D_x rfl rfl rfl (X_appendR (R := RP2) (zs := ([] : List (Int × Int))) (ys := (srtK Prod.fst (lastsT (l0.drop k) (l0.take k))).take n) E S hr_114 rfl rfl rfl T61 hv_109 one_RP2 (by first | omega | (simp; done) | (simp; omega) | (simp_all; omega)) (by first | omega | (simp; done) | (simp; omega) | (simp_all; omega)) ?_)
            clear E a S; rintro a w v_115 xs_116 E hr_117 S
            refine ⟨fun x hq hb => (agree_le hM_112 S.imm), ?_⟩
            refine D_x rfl rfl rfl (X_appendR (R := RP2) (zs := ([] : List (Int × Int)) ++ ((srtK Prod.fst (lastsT (l0.drop k) (l0.take k))).take n)) (ys := [x_3]) E S hr_117 rfl rfl rfl T61 hv_111 one_RP2 (by first | omega | (simp; done) | (simp; omega) | (simp_all; omega)) (by first | omega | (simp; done) | (simp; omega) | (simp_all; omega)) ?_)
            clear E a S; rintro a w v_118 xs_119 E hr_120 S
            refine ⟨fun x hq hb => (agree_le hM_112 S.imm), ?_⟩
            refine D_x rfl rfl rfl (X_appendR (R := RP2) (zs := (([] : List (Int × Int)) ++ ((srtK Prod.fst (lastsT (l0.drop k) (l0.take k))).take n)) ++ [x_3]) (ys := (srtK Prod.fst (lastsT (l0.drop k) (l0.take k))).drop n) E S hr_120 rfl rfl rfl T61 hv_110 one_RP2 (by first | omega | (simp; done) | (simp; omega) | (simp_all; omega)) (by first | omega | (simp; done) | (simp; omega) | (simp_all; omega)) ?_)
            clear E a S; rintro a w v_121 xs_122 E hr_123 S
            refine ⟨fun x hq hb => (agree_le hM_112 S.imm), ?_⟩
            refine D_v E rfl rfl rfl (fun w hC => (R_assign E rfl)) ?_
            clear E a; intro a E
            refine D_end (NoP_n ?_)
            refine B_n ?_
            refine T_n ?_
            refine WP_region ?_
            refine S_v E rfl (R_addx (m := ((k + 1 : Nat) : Int)) E rfl rfl (by omega) (by omega)) rfl ?_
            clear E a; intro a E
            refine S_v E rfl (R_move E rfl) rfl ?_
            clear E a; intro a E
            refine WL_nil ?_
            refine T_n ?_
            have S0 := S; clear S
            obtain ⟨M_124, hM_124, hz_125, S⟩ := S0.freezeR hr_123 RP2_mono (by (first | omega | (simp; omega) | (simp; done) | (simp_all; omega) | grind))
            clear S0
            replace h0 := h0.le RP2_mono hM_124
            replace hs3_0 := hs3_0.le RP2_mono hM_124
            replace hb_7 := hM_124.2 _ _ hb_7
            replace hv_8 := hv_8.le RP2_mono hM_124
            replace hv_109 := hv_109.le RP2_mono hM_124
            replace hv_110 := hv_110.le RP2_mono hM_124
            replace hv_111 := hv_111.le RP2_mono hM_124
            exact ⟨k + 1, ⟨M_124, _, (hM_1.trans (hM_6.trans (hM_9.trans (hM_18.trans (hM_112.trans hM_124))))), S, E.keep ⟨rfl, rfl, rfl, rfl, rfl, trivial⟩, by ((try clear S); (try clear E); first | assumption | omega | rfl | (simp; done) | (simp_all; done) | (simp [List.take_add_one, *]; done) | grind [List.take_add_one]), (SLeqR hz_125 (by first | exact ent_skip (by assumption) (in_all (by assumption) (by assumption)) | exact ent_put (by assumption) (in_none (by assumption) (by assumption)) (by assumption) (by first | exact gt_len (by assumption) | exact gt_at (by assumption) (by assumption))))⟩, by omega⟩
  · replace hc_2 := of_decide_eq_false hc_2
    refine WP_exit ?_
    refine T_x ?_
    refine T_x ?_
    refine B_x ?_
    refine T_n ?_
    refine WP_seq ?_
    refine WP_region ?_
    refine S_v E rfl (R_move E rfl) rfl ?_
    clear E a; intro a E
    refine S_v E rfl (R_assign E rfl) rfl ?_
    clear E a; intro a E
    refine WL_nil ?_
    refine T_n ?_
    refine WP_ret ?_
    exact F_ret1 E Try.results120 rfl ⟨_, rfl, M_1, hM_1, (by rw [show (entE l0) = (srtK Prod.fst (lastsT (l0.drop k) (l0.take k))) from by (rw [List.take_of_length_le (show l0.length ≤ k by omega), List.drop_eq_nil_of_le (show l0.length ≤ k by omega)]; first | exact entE_lasts l0 | exact (entE_lasts l0).symm)]; exact hs3_0), S⟩

set_option maxRecDepth 100000 in
set_option maxHeartbeats 4000000 in
theorem spec_picked {M : Hp} {v0 : Value} {l0 : List (Int × Int)} (h0 : RdS 2 RP2 M v0 l0) {v1 : Value} {f1 : Int × Int → Bool} (h1 : PFAB Try.prog v1 M f1) {w2 : Bool} (hb : l0.length ≤ 1000000000000) (hr0 : ∀ x ∈ l0, (-9223372036854775808 ≤ x.1 ∧ x.1 ≤ 9223372036854775807) ∧ (-9223372036854775808 ≤ x.2 ∧ x.2 ≤ 9223372036854775807)) :
    Pu Try.prog (.func (.func 142) #[] #[]) M [v0, v1, .bool w2] (fun r M' => RdS 2 RP2 M' r (entE ((mkE l0).filter (fun e : Int × Int => f1 e == w2)))) := by
  refine Pu_enter Try.func142 rfl Try.ntmps142 rfl Try.call142 ?_
  intro a w M1 H hM1 S E
  replace h0 := h0.le RP2_mono hM1
  replace h1 := h1.le hM1
  have b0 := h0.bound
  have hel := entE_len l0
  refine WP_seq ?_
  refine WP_region ?_
  refine S_v E rfl (R_assign E rfl) rfl ?_
  clear E a; intro a E
  refine WL_nil ?_
  refine T_n ?_
  refine WP_seq ?_
  refine WP_region ?_
  refine S_v E rfl (R_assign E rfl) rfl ?_
  clear E a; intro a E
  refine WL_nil ?_
  refine T_n ?_
  refine WP_seq ?_
  refine WP_seq ?_
  refine WP_region ?_
  refine S_v E rfl (R_move E rfl) rfl ?_
  clear E a; intro a E
  refine S_x (X_pu E S rfl rfl rfl (spec_Entries h0 (by first | omega | (simp [ixm_len]; done) | (simp [ixm_len]; omega) | exact Nat.le_trans (fl_in (by assumption)) (by omega) | exact Nat.le_trans (kpix_len _ _ _) (by first | omega | (simp; omega)) | exact Nat.le_trans (fl_ent _ _) (by omega) | (rw [List.length_map]; exact Nat.le_trans (List.length_take_le _ _) (by omega)))) (Hp.le.refl _) ?_)
  clear E a S; rintro a v_2 w M_1 hM_1 hv_2 S E
  replace h0 := h0.le RP2_mono hM_1
  replace h1 := h1.le hM_1
  refine S_v E rfl (R_lenV E rfl T61 hv_2.len) rfl ?_
  clear E a; intro a E
  refine S_v E rfl (R_move E rfl) rfl ?_
  clear E a; intro a E
  refine WL_nil ?_
  refine T_n ?_
  refine WP_block ?_
  replace S : St w M_1 (OwnC 119 2 (.slice none 0 0) ([] : List (Int × Int)).length [] :: _) := S.ownNil
  have hr_4 : RowsR RP2 2 M_1 ([] : List (Int × Int)) [] := RowsR.nil
  have hre : ([] : List (Int × Int)) = ((entE l0).take 0).filter (fun e : Int × Int => f1 e == w2) := by first | (simp; done) | exact fp_yes (F := fun e : Int × Int => f1 e == w2) (by assumption) (by assumption) | exact fp_no (F := fun e : Int × Int => f1 e == w2) (by assumption) (by assumption)
  replace S := S.reR hre
  replace hr_4 := hr_4.eq hre
  clear hre
  refine WP_loop (γ := Nat) (fun (k : Nat) a w => ∃ (M_5 : Hp) (u7 : Value) (xs7 : List Value), Hp.le M_1 M_5 ∧ St w M_5 (OwnC 119 2 u7 (((entE l0).take k).filter (fun e : Int × Int => f1 e == w2)).length xs7 :: H) ∧ Env a 28 [] [(1, v1), (2, .bool w2), (7, u7), (11, v_2), (12, .int .i64 (((entE l0).length : Nat) : Int)), (13, .int .i64 ((k : Nat) : Int))] ∧ (k ≤ (entE l0).length) ∧ RowsR RP2 2 M_5 (((entE l0).take k).filter (fun e : Int × Int => f1 e == w2)) xs7) (fun k => ((entE l0).length) - k) 0 ⟨M_1, _, _, Hp.le.refl _, S, E.keep ⟨rfl, rfl, rfl, rfl, rfl, rfl, trivial⟩, by ((try clear S); (try clear E); first | assumption | omega | rfl | (simp; done) | (simp_all; done) | (simp [List.take_add_one, *]; done) | grind [List.take_add_one]), hr_4⟩ ?_
  try clear E
  try clear S
  try clear a
  try clear w
  rintro k a w ⟨M_5, u7, xs7, hM_5, S, E, hL0_0, hr7⟩
  replace h0 := h0.le RP2_mono hM_5
  replace h1 := h1.le hM_5
  replace hv_2 := hv_2.le RP2_mono hM_5
  have hff := List.length_filter_le (fun e : Int × Int => f1 e == w2) ((entE l0).take k); have hft := List.length_take_le k (entE l0)
  refine WP_seq ?_
  refine WP_region ?_
  refine S_v E rfl (R_lss E rfl rfl) rfl ?_
  clear E a; intro a E
  refine WL_nil ?_
  refine T_n ?_
  refine WP_seq ?_
  refine WP_cond E rfl (fun hc_6 => ?_) (fun hc_6 => ?_)
  · replace hc_6 := of_decide_eq_true hc_6
    refine WP_skip ?_
    refine T_n ?_
    refine WP_seq ?_
    refine WP_block ?_
    refine WP_seq ?_
    refine WP_region ?_
    obtain ⟨x_7, hx_7⟩ : ∃ x, (entE l0)[k]? = some x := ⟨_, List.getElem?_eq_getElem (by first | omega | (simp; done) | (simp; omega) | (simp_all; omega))⟩
    obtain ⟨p_8, hp_8, qp_8⟩ := RdP2.at hv_2 hx_7
    refine S_v E rfl (R_idx E rfl rfl T61 hp_8 rfl) rfl ?_
    clear E a; intro a E
    refine S_v E rfl (R_loadA (cs := [.int .i64 x_7.1, .int .i64 x_7.2]) E rfl (Try.isAgg119 _) (Try.sizeOf119 _) S.imm qp_8) rfl ?_
    clear E a; intro a E
    refine S_x (X_alloc (cs := #[.int .i64 0, .int .i64 0]) E S rfl Try.zeroValue119 rfl ?_)
    clear E a S; rintro a w b_9 E S
    refine S_x0 (X_storeG (us := [.int .i64 x_7.1, .int .i64 x_7.2]) E S rfl rfl (Try.sizeOf119 _) rfl (by intro u hu; simp only [List.mem_cons, List.not_mem_nil, or_false] at hu; rcases hu with rfl | rfl <;> first | exact rfl | exact rfl) ?_)
    clear E a S; rintro a w E S
    replace S : St w M_5 (blk b_9 (.cells #[.int .i64 x_7.1, .int .i64 x_7.2] 119) :: _) := S
    have S0 := S; clear S
    obtain ⟨M_10, hM_10, hb_11, S⟩ := S0.freezeB
    clear S0
    replace h0 := h0.le RP2_mono hM_10
    replace h1 := h1.le hM_10
    replace hv_2 := hv_2.le RP2_mono hM_10
    replace hr7 := hr7.le RP2_mono hM_10
    refine WL_nil ?_
    refine T_n ?_
    refine WP_seq ?_
    refine WP_region ?_
    refine S_v E rfl (R_move E rfl) rfl ?_
    clear E a; intro a E
    refine S_v E rfl (R_loadGM E rfl (Try.isAgg119 _) (Try.sizeOf119 _) S.imm hb_11) rfl ?_
    clear E a; intro a E
    refine S_x (X_pu E S rfl rfl rfl (h1.2 x_7.1 x_7.2 (by exact ent_rng hr0 _ (List.mem_of_getElem? (by assumption)))) (Hp.le.refl _) ?_)
    clear E a S; rintro a _ w M_12 hM_12 rfl S E
    replace h0 := h0.le RP2_mono hM_12
    replace h1 := h1.le hM_12
    replace hv_2 := hv_2.le RP2_mono hM_12
    replace hr7 := hr7.le RP2_mono hM_12
    replace hb_11 := hM_12.2 _ _ hb_11
    refine S_v E rfl (R_move E rfl) rfl ?_
    clear E a; intro a E
    refine S_v E rfl (R_eqlB E rfl rfl Try.underlying4) rfl ?_
    clear E a; intro a E
    refine WL_nil ?_
    refine T_n ?_
    refine WP_cond E rfl (fun hc_13 => ?_) (fun hc_13 => ?_)
    · refine WP_region ?_
      refine S_v E rfl (R_move E rfl) rfl ?_
      clear E a; intro a E
      refine S_v E rfl (R_loadGM E rfl (Try.isAgg119 _) (Try.sizeOf119 _) S.imm hb_11) rfl ?_
      clear E a; intro a E
      refine S_x (X_buildA1 (R := RP2) (cs := [.int .i64 x_7.1, .int .i64 x_7.2]) (x0 := x_7) RP2_mono E S rfl T61 rfl rfl rfl rfl ?_)
      clear E a S; rintro a v_14 w M_15 hM_15 hv_14 S E
      replace h0 := h0.le RP2_mono hM_15
      replace h1 := h1.le hM_15
      replace hv_2 := hv_2.le RP2_mono hM_15
      replace hr7 := hr7.le RP2_mono hM_15
      replace hb_11 := hM_15.2 _ _ hb_11
      refine S_x (X_appendR (R := RP2) (zs := ((entE l0).take k).filter (fun e : Int × Int => f1 e == w2)) (ys := [x_7]) E S hr7 rfl rfl rfl T61 hv_14 one_RP2 (by (simp only [List.length_cons, List.length_nil] at *; omega)) (by (simp only [List.length_cons, List.length_nil] at *; omega)) ?_)
      clear E a S; rintro a w v_16 xs_17 E hr_18 S
      refine S_v E rfl (R_assign E rfl) rfl ?_
      clear E a; intro a E
      refine WL_nil ?_
      refine B_n ?_
      refine T_n ?_
      refine WP_region ?_
      refine S_v E rfl (R_addx (m := ((k + 1 : Nat) : Int)) E rfl rfl (by omega) (by omega)) rfl ?_
      clear E a; intro a E
      refine S_v E rfl (R_move E rfl) rfl ?_
      clear E a; intro a E
      refine WL_nil ?_
      refine T_n ?_
      have hre : (((entE l0).take k).filter (fun e : Int × Int => f1 e == w2)) ++ [x_7] = ((entE l0).take (k + 1)).filter (fun e : Int × Int => f1 e == w2) := by first | (simp; done) | exact fp_yes (F := fun e : Int × Int => f1 e == w2) (by assumption) (by assumption) | exact fp_no (F := fun e : Int × Int => f1 e == w2) (by assumption) (by assumption)
      replace S := S.reR hre
      replace hr_18 := hr_18.eq hre
      clear hre
      exact ⟨k + 1, ⟨M_15, _, _, (hM_5.trans (hM_10.trans (hM_12.trans hM_15))), S, E.keep ⟨rfl, rfl, rfl, rfl, rfl, rfl, trivial⟩, by ((try clear S); (try clear E); first | assumption | omega | rfl | (simp; done) | (simp_all; done) | (simp [List.take_add_one, *]; done) | grind [List.take_add_one]), hr_18⟩, by omega⟩
    · refine WP_skip ?_
      refine B_n ?_
      refine T_n ?_
      refine WP_region ?_
      refine S_v E rfl (R_addx (m := ((k + 1 : Nat) : Int)) E rfl rfl (by omega) (by omega)) rfl ?_
      clear E a; intro a E
      refine S_v E rfl (R_move E rfl) rfl ?_
      clear E a; intro a E
      refine WL_nil ?_
      refine T_n ?_
      have hre : ((entE l0).take k).filter (fun e : Int × Int => f1 e == w2) = ((entE l0).take (k + 1)).filter (fun e : Int × Int => f1 e == w2) := by first | (simp; done) | exact fp_yes (F := fun e : Int × Int => f1 e == w2) (by assumption) (by assumption) | exact fp_no (F := fun e : Int × Int => f1 e == w2) (by assumption) (by assumption)
      replace S := S.reR hre
      replace hr7 := hr7.eq hre
      clear hre
      exact ⟨k + 1, ⟨M_12, _, _, (hM_5.trans (hM_10.trans hM_12)), S, E.keep ⟨rfl, rfl, rfl, rfl, rfl, rfl, trivial⟩, by ((try clear S); (try clear E); first | assumption | omega | rfl | (simp; done) | (simp_all; done) | (simp [List.take_add_one, *]; done) | grind [List.take_add_one]), hr7⟩, by omega⟩
  · replace hc_6 := of_decide_eq_false hc_6
    refine WP_exit ?_
    refine T_x ?_
    refine T_x ?_
    refine B_x ?_
    refine T_n ?_
    refine WP_seq ?_
    refine WP_region ?_
    refine S_v E rfl (R_move E rfl) rfl ?_
    clear E a; intro a E
    refine S_v E rfl (R_assign E rfl) rfl ?_
    clear E a; intro a E
    refine WL_nil ?_
    refine T_n ?_
    refine WP_ret ?_
    have S0 := S; clear S
    obtain ⟨M_19, hM_19, hz_20, S⟩ := S0.freezeR hr7 RP2_mono (by (have hff := List.length_filter_le (fun e : Int × Int => f1 e == w2) ((entE l0).take k); have hft := List.length_take_le k (entE l0); have hfe := entE_len l0; omega))
    clear S0
    replace h0 := h0.le RP2_mono hM_19
    replace h1 := h1.le hM_19
    replace hv_2 := hv_2.le RP2_mono hM_19
    exact F_ret1 E Try.results142 rfl ⟨_, rfl, M_19, (hM_1.trans (hM_5.trans hM_19)), (by rw [show (entE ((mkE l0).filter (fun e : Int × Int => f1 e == w2))) = (((entE l0).take k).filter (fun e : Int × Int => f1 e == w2)) from by (rw [List.take_of_length_le (by omega)]; first | exact filt_ent _ _ | exact (filt_ent _ _).symm)]; exact hz_20), S⟩

set_option maxRecDepth 100000 in
set_option maxHeartbeats 4000000 in
theorem spec_mod {M : Hp} {x0 x1 : Int} (hn : x1 ≠ 0) (g0 : -9223372036854775808 ≤ x0 ∧ x0 ≤ 9223372036854775807) (g1 : -9223372036854775808 ≤ x1 ∧ x1 ≤ 9223372036854775807) :
    Pu Try.prog (.func (.func 169) #[] #[]) M [.int .i64 x0, .int .i64 x1] (fun r M' => r = .int .i64 (x0 % x1)) := by
  refine Pu_enter Try.func169 rfl Try.ntmps169 rfl Try.call169 ?_
  intro a w M1 H hM1 S E
  refine WP_seq ?_
  refine WP_region ?_
  refine S_v E rfl (R_assign E rfl) rfl ?_
  clear E a; intro a E
  refine WL_nil ?_
  refine T_n ?_
  refine WP_seq ?_
  refine WP_region ?_
  refine S_v E rfl (R_move E rfl) rfl ?_
  clear E a; intro a E
  refine S_v E rfl (R_convm (m := x1 % 18446744073709551616) E rfl Try.underlying3 Try.underlying172 (by first | (rw [u64_wrap]; omega) | (rw [u64_wrap]; simp; omega) | rw [u64_wrap])) rfl ?_
  clear E a; intro a E
  refine S_v E rfl (R_assign E rfl) rfl ?_
  clear E a; intro a E
  refine WL_nil ?_
  refine T_n ?_
  refine WP_seq ?_
  refine WP_seq ?_
  refine WP_region ?_
  refine S_v E rfl (R_move E rfl) rfl ?_
  clear E a; intro a E
  refine S_v E rfl (R_lss E rfl rfl) rfl ?_
  clear E a; intro a E
  refine WL_nil ?_
  refine T_n ?_
  refine WP_cond E rfl (fun hc_1 => ?_) (fun hc_1 => ?_)
  · replace hc_1 := of_decide_eq_true hc_1
    refine WP_region ?_
    refine S_v E rfl (R_move E rfl) rfl ?_
    clear E a; intro a E
    refine S_v E rfl (R_negm (m := -x1) E rfl (by first | (rw [u64_wrap]; omega) | rw [u64_wrap])) rfl ?_
    clear E a; intro a E
    refine S_v E rfl (R_assign E rfl) rfl ?_
    clear E a; intro a E
    refine WL_nil ?_
    refine T_n ?_
    refine WP_seq ?_
    refine WP_seq ?_
    refine WP_region ?_
    refine S_v E rfl (R_move E rfl) rfl ?_
    clear E a; intro a E
    refine S_v E rfl (R_geq E rfl rfl) rfl ?_
    clear E a; intro a E
    refine WL_nil ?_
    refine T_n ?_
    refine WP_cond E rfl (fun hc_2 => ?_) (fun hc_2 => ?_)
    · replace hc_2 := of_decide_eq_true hc_2
      refine WP_seq ?_
      refine WP_region ?_
      refine S_v E rfl (R_move E rfl) rfl ?_
      clear E a; intro a E
      refine S_v E rfl (R_convm (m := x0) E rfl Try.underlying3 Try.underlying172 (by first | (rw [u64_wrap]; omega) | (rw [u64_wrap]; simp; omega) | rw [u64_wrap])) rfl ?_
      clear E a; intro a E
      refine S_v E rfl (R_move E rfl) rfl ?_
      clear E a; intro a E
      have hr_3 := tmod_nn (p := x0) (q := -x1) (by omega) (by omega)
      refine S_v E rfl (R_rem E rfl rfl (by first | decide | omega)) rfl ?_
      clear E a; intro a E
      refine S_v E rfl (R_convx E rfl Try.underlying172 Try.underlying3 (by omega)) rfl ?_
      clear E a; intro a E
      refine S_v E rfl (R_assign E rfl) rfl ?_
      clear E a; intro a E
      refine WL_nil ?_
      refine T_n ?_
      refine WP_ret ?_
      refine T_r ?_
      exact F_ret1 E Try.results169 rfl ⟨_, rfl, M1, (Hp.le.refl _), (congrArg (Value.int .i64) (by (clear E S; first | (have en : x1 < 0 := (by omega); have e3 : x0 % (-x1) = x0 % x1 := Int.emod_neg ..; have a1 := modA x0 (-x1) (by omega); omega) | (have e : x1 % 18446744073709551616 = x1 := (by omega); simp only [e] at *; have a1 := modA x0 x1 (by omega); omega)))), S⟩
    · replace hc_2 := of_decide_eq_false hc_2
      refine WP_skip ?_
      refine T_n ?_
      refine WP_seq ?_
      refine WP_region ?_
      refine S_v E rfl (R_move E rfl) rfl ?_
      clear E a; intro a E
      refine S_v E rfl (R_convm (m := x0 % 18446744073709551616) E rfl Try.underlying3 Try.underlying172 (by first | (rw [u64_wrap]; omega) | (rw [u64_wrap]; simp; omega) | rw [u64_wrap])) rfl ?_
      clear E a; intro a E
      refine S_v E rfl (R_negm (m := -x0) E rfl (by first | (rw [u64_wrap]; omega) | rw [u64_wrap])) rfl ?_
      clear E a; intro a E
      refine S_v E rfl (R_move E rfl) rfl ?_
      clear E a; intro a E
      have hr_4 := tmod_nn (p := -x0) (q := -x1) (by omega) (by omega)
      refine S_v E rfl (R_rem E rfl rfl (by first | decide | omega)) rfl ?_
      clear E a; intro a E
      refine S_v E rfl (R_assign E rfl) rfl ?_
      clear E a; intro a E
      refine WL_nil ?_
      refine T_n ?_
      refine WP_seq ?_
      refine WP_seq ?_
      refine WP_region ?_
      refine S_v E rfl (R_move E rfl) rfl ?_
      clear E a; intro a E
      refine S_v E rfl (R_gtr E rfl rfl) rfl ?_
      clear E a; intro a E
      refine WL_nil ?_
      refine T_n ?_
      refine WP_cond E rfl (fun hc_5 => ?_) (fun hc_5 => ?_)
      · replace hc_5 := of_decide_eq_true hc_5
        refine WP_region ?_
        refine S_v E rfl (R_move E rfl) rfl ?_
        clear E a; intro a E
        refine S_v E rfl (R_move E rfl) rfl ?_
        clear E a; intro a E
        refine S_v E rfl (R_subm (m := (-x1) - (Int.tmod (-x0) (-x1))) E rfl rfl (by first | (rw [u64_wrap]; omega) | rw [u64_wrap])) rfl ?_
        clear E a; intro a E
        refine S_v E rfl (R_assign E rfl) rfl ?_
        clear E a; intro a E
        refine WL_nil ?_
        refine T_n ?_
        refine WP_seq ?_
        refine WP_region ?_
        refine S_v E rfl (R_move E rfl) rfl ?_
        clear E a; intro a E
        refine S_v E rfl (R_convx E rfl Try.underlying172 Try.underlying3 (by omega)) rfl ?_
        clear E a; intro a E
        refine S_v E rfl (R_assign E rfl) rfl ?_
        clear E a; intro a E
        refine WL_nil ?_
        refine T_n ?_
        refine WP_ret ?_
        exact F_ret1 E Try.results169 rfl ⟨_, rfl, M1, (Hp.le.refl _), (congrArg (Value.int .i64) (by (clear E S; first | (have en : x1 < 0 := (by omega); have e3 : x0 % (-x1) = x0 % x1 := Int.emod_neg ..; have a1 := modA x0 (-x1) (by omega); omega) | (have e : x1 % 18446744073709551616 = x1 := (by omega); simp only [e] at *; have a1 := modA x0 x1 (by omega); omega)))), S⟩
      · replace hc_5 := of_decide_eq_false hc_5
        refine WP_skip ?_
        refine T_n ?_
        refine WP_seq ?_
        refine WP_region ?_
        refine S_v E rfl (R_move E rfl) rfl ?_
        clear E a; intro a E
        refine S_v E rfl (R_convx E rfl Try.underlying172 Try.underlying3 (by omega)) rfl ?_
        clear E a; intro a E
        refine S_v E rfl (R_assign E rfl) rfl ?_
        clear E a; intro a E
        refine WL_nil ?_
        refine T_n ?_
        refine WP_ret ?_
        exact F_ret1 E Try.results169 rfl ⟨_, rfl, M1, (Hp.le.refl _), (congrArg (Value.int .i64) (by (clear E S; first | (have en : x1 < 0 := (by omega); have e3 : x0 % (-x1) = x0 % x1 := Int.emod_neg ..; have a1 := modA x0 (-x1) (by omega); omega) | (have e : x1 % 18446744073709551616 = x1 := (by omega); simp only [e] at *; have a1 := modA x0 x1 (by omega); omega)))), S⟩
  · replace hc_1 := of_decide_eq_false hc_1
    refine WP_skip ?_
    refine T_n ?_
    refine WP_seq ?_
    refine WP_seq ?_
    refine WP_region ?_
    refine S_v E rfl (R_move E rfl) rfl ?_
    clear E a; intro a E
    refine S_v E rfl (R_geq E rfl rfl) rfl ?_
    clear E a; intro a E
    refine WL_nil ?_
    refine T_n ?_
    refine WP_cond E rfl (fun hc_6 => ?_) (fun hc_6 => ?_)
    · replace hc_6 := of_decide_eq_true hc_6
      refine WP_seq ?_
      refine WP_region ?_
      refine S_v E rfl (R_move E rfl) rfl ?_
      clear E a; intro a E
      refine S_v E rfl (R_convm (m := x0) E rfl Try.underlying3 Try.underlying172 (by first | (rw [u64_wrap]; omega) | (rw [u64_wrap]; simp; omega) | rw [u64_wrap])) rfl ?_
      clear E a; intro a E
      refine S_v E rfl (R_move E rfl) rfl ?_
      clear E a; intro a E
      have hr_7 := tmod_nn (p := x0) (q := x1 % 18446744073709551616) (by omega) (by omega)
      refine S_v E rfl (R_rem E rfl rfl (by first | decide | omega)) rfl ?_
      clear E a; intro a E
      refine S_v E rfl (R_convx E rfl Try.underlying172 Try.underlying3 (by omega)) rfl ?_
      clear E a; intro a E
      refine S_v E rfl (R_assign E rfl) rfl ?_
      clear E a; intro a E
      refine WL_nil ?_
      refine T_n ?_
      refine WP_ret ?_
      refine T_r ?_
      exact F_ret1 E Try.results169 rfl ⟨_, rfl, M1, (Hp.le.refl _), (congrArg (Value.int .i64) (by (clear E S; first | (have en : x1 < 0 := (by omega); have e3 : x0 % (-x1) = x0 % x1 := Int.emod_neg ..; have a1 := modA x0 (-x1) (by omega); omega) | (have e : x1 % 18446744073709551616 = x1 := (by omega); simp only [e] at *; have a1 := modA x0 x1 (by omega); omega)))), S⟩
    · replace hc_6 := of_decide_eq_false hc_6
      refine WP_skip ?_
      refine T_n ?_
      refine WP_seq ?_
      refine WP_region ?_
      refine S_v E rfl (R_move E rfl) rfl ?_
      clear E a; intro a E
      refine S_v E rfl (R_convm (m := x0 % 18446744073709551616) E rfl Try.underlying3 Try.underlying172 (by first | (rw [u64_wrap]; omega) | (rw [u64_wrap]; simp; omega) | rw [u64_wrap])) rfl ?_
      clear E a; intro a E
      refine S_v E rfl (R_negm (m := -x0) E rfl (by first | (rw [u64_wrap]; omega) | rw [u64_wrap])) rfl ?_
      clear E a; intro a E
      refine S_v E rfl (R_move E rfl) rfl ?_
      clear E a; intro a E
      have hr_8 := tmod_nn (p := -x0) (q := x1 % 18446744073709551616) (by omega) (by omega)
      refine S_v E rfl (R_rem E rfl rfl (by first | decide | omega)) rfl ?_
      clear E a; intro a E
      refine S_v E rfl (R_assign E rfl) rfl ?_
      clear E a; intro a E
      refine WL_nil ?_
      refine T_n ?_
      refine WP_seq ?_
      refine WP_seq ?_
      refine WP_region ?_
      refine S_v E rfl (R_move E rfl) rfl ?_
      clear E a; intro a E
      refine S_v E rfl (R_gtr E rfl rfl) rfl ?_
      clear E a; intro a E
      refine WL_nil ?_
      refine T_n ?_
      refine WP_cond E rfl (fun hc_9 => ?_) (fun hc_9 => ?_)
      · replace hc_9 := of_decide_eq_true hc_9
        refine WP_region ?_
        refine S_v E rfl (R_move E rfl) rfl ?_
        clear E a; intro a E
        refine S_v E rfl (R_move E rfl) rfl ?_
        clear E a; intro a E
        refine S_v E rfl (R_subm (m := (x1 % 18446744073709551616) - (Int.tmod (-x0) (x1 % 18446744073709551616))) E rfl rfl (by first | (rw [u64_wrap]; omega) | rw [u64_wrap])) rfl ?_
        clear E a; intro a E
        refine S_v E rfl (R_assign E rfl) rfl ?_
        clear E a; intro a E
        refine WL_nil ?_
        refine T_n ?_
        refine WP_seq ?_
        refine WP_region ?_
        refine S_v E rfl (R_move E rfl) rfl ?_
        clear E a; intro a E
        refine S_v E rfl (R_convx E rfl Try.underlying172 Try.underlying3 (by omega)) rfl ?_
        clear E a; intro a E
        refine S_v E rfl (R_assign E rfl) rfl ?_
        clear E a; intro a E
        refine WL_nil ?_
        refine T_n ?_
        refine WP_ret ?_
        exact F_ret1 E Try.results169 rfl ⟨_, rfl, M1, (Hp.le.refl _), (congrArg (Value.int .i64) (by (clear E S; first | (have en : x1 < 0 := (by omega); have e3 : x0 % (-x1) = x0 % x1 := Int.emod_neg ..; have a1 := modA x0 (-x1) (by omega); omega) | (have e : x1 % 18446744073709551616 = x1 := (by omega); simp only [e] at *; have a1 := modA x0 x1 (by omega); omega)))), S⟩
      · replace hc_9 := of_decide_eq_false hc_9
        refine WP_skip ?_
        refine T_n ?_
        refine WP_seq ?_
        refine WP_region ?_
        refine S_v E rfl (R_move E rfl) rfl ?_
        clear E a; intro a E
        refine S_v E rfl (R_convx E rfl Try.underlying172 Try.underlying3 (by omega)) rfl ?_
        clear E a; intro a E
        refine S_v E rfl (R_assign E rfl) rfl ?_
        clear E a; intro a E
        refine WL_nil ?_
        refine T_n ?_
        refine WP_ret ?_
        exact F_ret1 E Try.results169 rfl ⟨_, rfl, M1, (Hp.le.refl _), (congrArg (Value.int .i64) (by (clear E S; first | (have en : x1 < 0 := (by omega); have e3 : x0 % (-x1) = x0 % x1 := Int.emod_neg ..; have a1 := modA x0 (-x1) (by omega); omega) | (have e : x1 % 18446744073709551616 = x1 := (by omega); simp only [e] at *; have a1 := modA x0 x1 (by omega); omega)))), S⟩

set_option maxRecDepth 100000 in
set_option maxHeartbeats 4000000 in
theorem spec_IndexOf {M : Hp} {v0 : Value} {l0 : List Int} (h0 : RdI M v0 l0){x1 : Int} :
    Pu Try.prog (.func (.func 106) #[] #[]) M [v0, .int .i64 x1] (fun r M' => r = .int .i64 (fiI (eqx x1) l0)) := by
  refine Pu_enter Try.func106 rfl Try.ntmps106 rfl Try.call106 ?_
  intro a w M1 H hM1 S E
  replace h0 := h0.le hM1
  have b0 := h0.bound
  refine WP_seq ?_
  refine WP_region ?_
  refine S_v E rfl (R_assign E rfl) rfl ?_
  clear E a; intro a E
  refine WL_nil ?_
  refine T_n ?_
  refine WP_seq ?_
  refine WP_seq ?_
  refine WP_region ?_
  refine S_v E rfl (R_move E rfl) rfl ?_
  clear E a; intro a E
  refine S_v E rfl (R_lenV E rfl T22 h0.len) rfl ?_
  clear E a; intro a E
  refine S_v E rfl (R_move E rfl) rfl ?_
  clear E a; intro a E
  refine WL_nil ?_
  refine T_n ?_
  refine WP_block ?_
  refine WP_loop (γ := Nat) (fun (k : Nat) a w => ∃ (M_1 : Hp), Hp.le M1 M_1 ∧ St w M_1 (H) ∧ Env a 19 [] [(0, v0), (1, .int .i64 x1), (7, .int .i64 (((l0).length : Nat) : Int)), (8, .int .i64 ((k : Nat) : Int))] ∧ (k ≤ (l0).length) ∧ (∀ y ∈ l0.take k, eqx x1 y = false)) (fun k => ((l0).length) - k) 0 ⟨M1, Hp.le.refl _, S, E.keep ⟨rfl, rfl, rfl, rfl, trivial⟩, by ((try clear S); (try clear E); first | assumption | omega | rfl | (simp; done) | (simp_all; done) | (simp [List.take_add_one, *]; done) | grind [List.take_add_one]), (by simp)⟩ ?_
  try clear E
  try clear S
  try clear a
  try clear w
  rintro k a w ⟨M_1, hM_1, S, E, hL0_0, hL0_1⟩
  replace h0 := h0.le hM_1
  refine WP_seq ?_
  refine WP_region ?_
  refine S_v E rfl (R_lss E rfl rfl) rfl ?_
  clear E a; intro a E
  refine WL_nil ?_
  refine T_n ?_
  refine WP_seq ?_
  refine WP_cond E rfl (fun hc_2 => ?_) (fun hc_2 => ?_)
  · replace hc_2 := of_decide_eq_true hc_2
    refine WP_skip ?_
    refine T_n ?_
    refine WP_seq ?_
    refine WP_block ?_
    refine WP_seq ?_
    refine WP_region ?_
    refine S_v E rfl (R_move E rfl) rfl ?_
    clear E a; intro a E
    refine S_v E rfl (R_assign E rfl) rfl ?_
    clear E a; intro a E
    refine WL_nil ?_
    refine T_n ?_
    refine WP_seq ?_
    refine WP_region ?_
    refine S_v E rfl (R_move E rfl) rfl ?_
    clear E a; intro a E
    refine S_v E rfl (R_move E rfl) rfl ?_
    clear E a; intro a E
    obtain ⟨x_3, hx_3⟩ : ∃ x, (l0)[k]? = some x := ⟨_, List.getElem?_eq_getElem (by first | omega | (simp; done) | (simp; omega) | (simp_all; omega))⟩
    obtain ⟨p_4, hp_4, qp_4⟩ := h0.at hx_3
    refine S_v E rfl (R_idx E rfl rfl T22 hp_4 rfl) rfl ?_
    clear E a; intro a E
    refine S_v E rfl (R_loadM E rfl Try.isAgg3 S.imm qp_4) rfl ?_
    clear E a; intro a E
    refine S_v E rfl (R_move E rfl) rfl ?_
    clear E a; intro a E
    refine S_v E rfl (R_eql E rfl rfl) rfl ?_
    clear E a; intro a E
    refine WL_nil ?_
    refine T_n ?_
    refine WP_cond E rfl (fun hc_5 => ?_) (fun hc_5 => ?_)
    · replace hc_5 := of_decide_eq_true hc_5
      refine WP_seq ?_
      refine WP_region ?_
      refine S_v E rfl (R_move E rfl) rfl ?_
      clear E a; intro a E
      refine S_v E rfl (R_assign E rfl) rfl ?_
      clear E a; intro a E
      refine WL_nil ?_
      refine T_n ?_
      refine WP_ret ?_
      refine B_r ?_
      refine T_r ?_
      refine T_r ?_
      refine B_r ?_
      refine T_r ?_
      exact F_ret1 E Try.results106 rfl ⟨_, rfl, M_1, hM_1, (congrArg (Value.int .i64) (by (first | exact (fi_yes (f := eqx x1) hL0_1 (by assumption) (by first | exact eqx_yes (by assumption) | exact eqx_yes' (by assumption))).1 | exact ((fi_yes (f := eqx x1) hL0_1 (by assumption) (by first | exact eqx_yes (by assumption) | exact eqx_yes' (by assumption))).1).symm | exact (fi_no (f := eqx x1) hL0_1 (by omega)).1 | exact ((fi_no (f := eqx x1) hL0_1 (by omega)).1).symm))), S⟩
    · replace hc_5 := of_decide_eq_false hc_5
      refine WP_skip ?_
      refine B_n ?_
      refine T_n ?_
      refine WP_region ?_
      refine S_v E rfl (R_addx (m := ((k + 1 : Nat) : Int)) E rfl rfl (by omega) (by omega)) rfl ?_
      clear E a; intro a E
      refine S_v E rfl (R_move E rfl) rfl ?_
      clear E a; intro a E
      refine WL_nil ?_
      refine T_n ?_
      exact ⟨k + 1, ⟨M_1, hM_1, S, E.keep ⟨rfl, rfl, rfl, rfl, trivial⟩, by ((try clear S); (try clear E); first | assumption | omega | rfl | (simp; done) | (simp_all; done) | (simp [List.take_add_one, *]; done) | grind [List.take_add_one]), (by exact take_all (P := fun y => eqx x1 y = false) hL0_1 (by assumption) (by first | exact eqx_no (by assumption) | exact eqx_no' (by assumption)))⟩, by omega⟩
  · replace hc_2 := of_decide_eq_false hc_2
    refine WP_exit ?_
    refine T_x ?_
    refine T_x ?_
    refine B_x ?_
    refine T_n ?_
    refine WP_seq ?_
    refine WP_region ?_
    refine S_v E rfl (R_assign E rfl) rfl ?_
    clear E a; intro a E
    refine WL_nil ?_
    refine T_n ?_
    refine WP_ret ?_
    exact F_ret1 E Try.results106 rfl ⟨_, rfl, M_1, hM_1, (congrArg (Value.int .i64) (by (first | exact (fi_yes (f := eqx x1) hL0_1 (by assumption) (by first | exact eqx_yes (by assumption) | exact eqx_yes' (by assumption))).1 | exact ((fi_yes (f := eqx x1) hL0_1 (by assumption) (by first | exact eqx_yes (by assumption) | exact eqx_yes' (by assumption))).1).symm | exact (fi_no (f := eqx x1) hL0_1 (by omega)).1 | exact ((fi_no (f := eqx x1) hL0_1 (by omega)).1).symm))), S⟩

set_option maxRecDepth 100000 in
set_option maxHeartbeats 4000000 in
theorem spec_Contains {M : Hp} {v0 : Value} {l0 : List Int} (h0 : RdI M v0 l0){x1 : Int} :
    Pu Try.prog (.func (.func 146) #[] #[]) M [v0, .int .i64 x1] (fun r M' => r = .bool (decide (x1 ∈ l0))) := by
  refine Pu_enter Try.func146 rfl Try.ntmps146 rfl Try.call146 ?_
  intro a w M1 H hM1 S E
  replace h0 := h0.le hM1
  have b0 := h0.bound
  refine WP_seq ?_
  refine WP_region ?_
  refine S_v E rfl (R_assign E rfl) rfl ?_
  clear E a; intro a E
  refine WL_nil ?_
  refine T_n ?_
  refine WP_seq ?_
  refine WP_region ?_
  refine S_v E rfl (R_move E rfl) rfl ?_
  clear E a; intro a E
  refine S_v E rfl (R_move E rfl) rfl ?_
  clear E a; intro a E
  refine S_x (X_pu E S rfl rfl rfl (spec_IndexOf h0) (Hp.le.refl _) ?_)
  clear E a S; rintro a _ w M_1 hM_1 rfl S E
  replace h0 := h0.le hM_1
  refine S_v E rfl (R_geq E rfl rfl) rfl ?_
  clear E a; intro a E
  refine S_v E rfl (R_assign E rfl) rfl ?_
  clear E a; intro a E
  refine WL_nil ?_
  refine T_n ?_
  refine WP_ret ?_
  exact F_ret1 E Try.results146 rfl ⟨_, rfl, M_1, hM_1, (congrArg Value.bool (by (first | exact decide_eq_decide.1 (fi_mem l0 x1) | exact (decide_eq_decide.1 (fi_mem l0 x1)).symm | exact fi_mem l0 x1 | exact (fi_mem l0 x1).symm))), S⟩

end Go.Proofs.Ytahbobhbookehaa.wFnPicked
