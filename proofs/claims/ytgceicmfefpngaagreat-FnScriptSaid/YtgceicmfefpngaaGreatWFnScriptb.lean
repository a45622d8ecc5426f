/- Walks through the functions that laws.FnScript reaches: what each computes; no conditions beyond what each theorem states. -/
import Derived.Test.YtgceicmfefpngaaGreatWFnScripta
set_option linter.unusedVariables false
set_option linter.unusedSimpArgs false
namespace Go.Proofs.YtgceicmfefpngaaGreat.wFnScript
open Go Go.Sl
set_option maxRecDepth 100000
set_option maxHeartbeats 4000000
theorem yM {M : Hp} {pk0 pn0 : Int} {w0 : Value} {pl0 : List Int} (hw0 : RdI M w0 pl0) (gn0 : -9223372036854775808 ≤ pn0 ∧ pn0 ≤ 9223372036854775807) :
  Pu Tryz.prog (.func (.func 92) #[] #[]) M [.agg #[.int .i64 pk0, .int .i64 pn0, w0]] (fun r M' => r = .bool (decide ((pl0).length ≤ 2147483647))) := by
 refine Qk Tryz.func92 rfl Tryz.ntmps92 rfl Tryz.call92 ?_
 intro a w M1 H hM1 S E
 replace hw0 := hw0.le hM1
 have bw0 := hw0.bound
 refine Qb (Qa ?_)
 refine S_x (Jc (cs := #[.int .i64 pk0, .int .i64 pn0, w0]) E S rfl rfl rfl ?_)
 clear E a S; rintro a w b_1 E S
 obtain ⟨M_2, hM_2, hb_1, S⟩ := S.freezeB
 replace hw0 := hw0.le hM_2
 refine S_a E rfl rfl fun _ E1 => Qc (T_n (Qb (Qb (Qa (S_v E1 rfl (Ql E1 rfl (jj _)) rfl fun _ E2 => S_v E2 rfl (Qj E2 rfl Tryz.isAgg22 S.imm (Qo hb_1 rfl)) rfl fun _ E3 => S_v E3 rfl (Qp E3 rfl T22 hw0.len) rfl fun _ E4 => S_v E4 rfl (JT E4 rfl rfl) rfl ?_)))))
 clear E a E1 E2 E3 E4; intro a E
 refine Qc (T_n ?_)
 refine Qn E rfl (fun hc_3 => ?_) (fun hc_3 => ?_)
 ·refine Qb (Qa (S_a E rfl rfl ?_))
  clear E a; intro a E
  refine Qc (T_n (Qe ?_))
  refine T_r ?_
  exact Qg E Tryz.results92 rfl ⟨_, rfl, M_2, hM_2, (bF (by (omega))), S⟩
 ·refine Qh (T_n (Qb (Qa (S_a E rfl rfl ?_))))
  clear E a; intro a E
  refine Qc (T_n (Qe ?_))
  exact Qg E Tryz.results92 rfl ⟨_, rfl, M_2, hM_2, (bT (by (omega))), S⟩
theorem yK {M : Hp} {sd sn sm pk pn kk kn : Int} {wv cv : Value} {pl c : List Int} (hw : RdI M wv pl) (hc : RdI M cv c) (gd : -9223372036854775808 ≤ sd ∧ sd ≤ 9223372036854775807) (gn : -9223372036854775808 ≤ sn ∧ sn ≤ 9223372036854775807) (gm : -9223372036854775808 ≤ sm ∧ sm ≤ 9223372036854775807) (gpn : -9223372036854775808 ≤ pn ∧ pn ≤ 9223372036854775807) (gkn : -9223372036854775808 ≤ kn ∧ kn ≤ 9223372036854775807)  :
  Pu Tryz.prog (.func (.func 14) #[] #[]) M [.agg #[.int .i64 sd, .int .i64 sn, .int .i64 sm, .int .i64 pk, .int .i64 pn, wv, .int .i64 kk, .int .i64 kn, cv]] (fun r M' => r = .bool (decide (pl.length ≤ 2147483647 ∧ c.length ≤ 2147483647))) := by
 refine Qk Tryz.func14 rfl Tryz.ntmps14 rfl Tryz.call14 ?_
 intro a w M1 H hM1 S E
 replace hw := hw.le hM1
 replace hc := hc.le hM1
 have bw := hw.bound
 have bc := hc.bound
 refine Qb (Qa ?_)
 refine S_x (Jc (cs := #[.int .i64 sd, .int .i64 sn, .int .i64 sm, .int .i64 pk, .int .i64 pn, wv, .int .i64 kk, .int .i64 kn, cv]) E S rfl rfl rfl ?_)
 clear E a S; rintro a w b_1 E S
 obtain ⟨M_2, hM_2, hb_1, S⟩ := S.freezeB
 replace hw := hw.le hM_2
 replace hc := hc.le hM_2
 refine S_a E rfl rfl fun _ E1 => Qc (T_n (Qb (Qb (Qa (S_v E1 rfl (Ql E1 rfl (Vt _)) rfl fun _ E2 => S_v E2 rfl (Jj (off := 3) (part := [.int .i64 pk, .int .i64 pn, wv]) E2 rfl (Tryz.isAgg27 _) (Tryz.sizeOf27 _) S.imm hb_1 rfl rfl) rfl ?_)))))
 clear E a E1 E2; intro a E
 refine S_x (Qr E S rfl rfl rfl (yM hw (by omega)) (Hp.le.refl _) ?_)
 clear E a S; rintro a _ w M_3 hM_3 rfl S E
 replace hc := hc.le hM_3
 replace hb_1 := hM_3.2 _ _ hb_1
 refine S_v E rfl (Zk E rfl) rfl ?_
 clear E a; intro a E
 refine Qc (T_n ?_)
 refine QL E rfl (fun hc_4 => ?_) (fun hc_4 => ?_)
 ·refine Qb ?_
  refine Qa (S_a E rfl rfl ?_)
  clear E a; intro a E
  refine Qc (T_n (Qe ?_))
  refine T_r ?_
  exact Qg E Tryz.results14 rfl ⟨_, rfl, M_3, (hM_2.trans hM_3), (bF (by ((simp_all; omega)))), S⟩
 ·refine Qh ?_
  refine T_n (Qb (Qb (Qa (S_v E rfl (Ql E rfl (Jl _)) rfl fun _ E1 => S_v E1 rfl (Qj E1 rfl Tryz.isAgg22 S.imm (Qo hb_1 rfl)) rfl fun _ E2 => S_v E2 rfl (Qp E2 rfl T22 hc.len) rfl fun _ E3 => S_v E3 rfl (JT E3 rfl rfl) rfl ?_))))
  clear E a E1 E2 E3; intro a E
  refine Qc (T_n ?_)
  refine Qn E rfl (fun hc_5 => ?_) (fun hc_5 => ?_)
  ·refine Qb (Qa (S_a E rfl rfl ?_))
   clear E a; intro a E
   refine Qc (T_n (Qe ?_))
   refine T_r ?_
   exact Qg E Tryz.results14 rfl ⟨_, rfl, M_3, (hM_2.trans hM_3), (bF (by ((simp_all; omega)))), S⟩
  ·refine Qh (T_n (Qb (Qa (S_a E rfl rfl ?_))))
   clear E a; intro a E
   refine Qc (T_n (Qe ?_))
   exact Qg E Tryz.results14 rfl ⟨_, rfl, M_3, (hM_2.trans hM_3), (bT (by ((simp_all; omega)))), S⟩
theorem yL {M : Hp} {v0 : Value} {l0 : List TSt} (h0 : RdS 9 RTS M v0 l0)  :
  Pu Tryz.prog (.func (.func 6) #[] #[]) M [v0] (fun r M' => r = .bool (decide (l0.length ≤ 2147483647 ∧ ∀ s ∈ l0, (s.2.2.2.2.2.1.length ≤ 2147483647 ∧ s.2.2.2.2.2.2.2.2.length ≤ 2147483647)))) := by
 refine Qk Tryz.func6 rfl Tryz.ntmps6 rfl Tryz.call6 ?_
 intro a w M1 H hM1 S E
 replace h0 := h0.le JJ hM1
 have b0 := h0.bound
 refine Qb (Qa (S_a E rfl rfl fun _ E1 => Qc (T_n (Qb (Qb (Qa (S_m E1 rfl rfl fun _ E2 => S_v E2 rfl (Qp E2 rfl T23 h0.len) rfl fun _ E3 => S_v E3 rfl (JT E3 rfl rfl) rfl ?_)))))))
 clear E a E1 E2 E3; intro a E
 refine Qc (T_n ?_)
 refine Qn E rfl (fun hc_1 => ?_) (fun hc_1 => ?_)
 ·refine Qb (Qa (S_a E rfl rfl ?_))
  clear E a; intro a E
  refine Qc (T_n (Qe ?_))
  refine T_r ?_
  exact Qg E Tryz.results6 rfl ⟨_, rfl, M1, (Hp.le.refl _), (bF (by omega)), S⟩
 ·refine Qh (T_n (Qb (Qb (Qa (S_m E rfl rfl fun _ E1 => S_v E1 rfl (Qp E1 rfl T23 h0.len) rfl fun _ E2 => S_m E2 rfl rfl ?_)))))
  clear E a E1 E2; intro a E
  refine Qc (T_n (Qi ?_))
  refine Qx (γ := Nat) (fun (k : Nat) a w => ∃ (M_2 : Hp), Hp.le M1 M_2 ∧ St w M_2 (H) ∧ Env a 18 [] [(8, v0), (9, .int .i64 (((l0).length : Nat) : Int)), (10, .int .i64 ((k : Nat) : Int))] ∧ (k ≤ (l0).length) ∧ (∀ s ∈ l0.take k, (s.2.2.2.2.2.1.length ≤ 2147483647 ∧ s.2.2.2.2.2.2.2.2.length ≤ 2147483647))) (fun k => ((l0).length) - k) 0 ⟨M1, Hp.le.refl _, S, E.keep ⟨rfl, rfl, rfl, trivial⟩, by (omega), (by simp)⟩ ?_
  try clear E
  try clear S
  try clear a
  try clear w
  rintro k a w ⟨M_2, hM_2, S, E, hL0_0, hL0_1⟩
  replace h0 := h0.le JJ hM_2
  refine Qb (Qa (S_v E rfl (QG E rfl rfl) rfl ?_))
  clear E a; intro a E
  refine Qc (T_n (Qb ?_))
  refine Qn E rfl (fun hc_3 => ?_) (fun hc_3 => ?_)
  ·refine Qh (T_n (Qb (Qi (Qb (Qa ?_)))))
   obtain ⟨x_4, hx_4⟩ : ∃ x, (l0)[k]? = some x := ⟨_, List.getElem?_eq_getElem (by omega)⟩
   obtain ⟨p_5, w_6, u_7, hp_5, qp_5, hw_6, hu_7, gb_8⟩ := RdTS.at h0 hx_4
   have hrcu_7 := gb_8.2.2.2.2.2
   replace gb_8 := And.intro gb_8.1 (And.intro gb_8.2.1 (And.intro gb_8.2.2.1 (And.intro gb_8.2.2.2.1 gb_8.2.2.2.2.1)))
   have bu_7 := hu_7.bound
   have bw_6 := hw_6.bound
   refine S_v E rfl (QB E rfl rfl T23 hp_5 rfl) rfl fun _ E1 => S_v E1 rfl (vk (cs := [.int .i64 x_4.1, .int .i64 x_4.2.1, .int .i64 x_4.2.2.1, .int .i64 x_4.2.2.2.1, .int .i64 x_4.2.2.2.2.1, w_6, .int .i64 x_4.2.2.2.2.2.2.1, .int .i64 x_4.2.2.2.2.2.2.2.1, u_7]) E1 rfl (Tryz.isAgg32 _) (Tryz.sizeOf32 _) S.imm qp_5) rfl ?_
   clear E a E1; intro a E
   refine S_x (Jp (cs := #[.int .i64 0, .int .i64 0, .int .i64 0, .int .i64 0, .int .i64 0, .slice none 0 0, .int .i64 0, .int .i64 0, .slice none 0 0]) E S rfl Tryz.zeroValue32 rfl ?_)
   clear E a S; rintro a w b_9 E S
   refine Zr (Jz (us := [.int .i64 x_4.1, .int .i64 x_4.2.1, .int .i64 x_4.2.2.1, .int .i64 x_4.2.2.2.1, .int .i64 x_4.2.2.2.2.1, w_6, .int .i64 x_4.2.2.2.2.2.2.1, .int .i64 x_4.2.2.2.2.2.2.2.1, u_7]) E S rfl rfl (Tryz.sizeOf32 _) rfl (by intro u hu; simp only [List.mem_cons, List.not_mem_nil, or_false] at hu; rcases hu with rfl | rfl | rfl | rfl | rfl | rfl | rfl | rfl | rfl <;> first | exact rfl | exact rfl | exact rfl | exact rfl | exact rfl | exact (RdS.one' hw_6) | exact rfl | exact rfl | exact (RdS.one' hu_7)) ?_)
   clear E a S; rintro a w E S
   replace S : St w M_2 (blk b_9 (.cells #[.int .i64 x_4.1, .int .i64 x_4.2.1, .int .i64 x_4.2.2.1, .int .i64 x_4.2.2.2.1, .int .i64 x_4.2.2.2.2.1, w_6, .int .i64 x_4.2.2.2.2.2.2.1, .int .i64 x_4.2.2.2.2.2.2.2.1, u_7] 32) :: _) := S
   have S0 := S; clear S
   obtain ⟨M_10, hM_10, hb_11, S⟩ := S0.freezeB
   clear S0
   replace hw_6 := hw_6.le hM_10
   replace hu_7 := hu_7.le hM_10
   refine Qc (T_n (Qb (Qa (S_v E rfl (QA E rfl (Tryz.isAgg32 _) (Tryz.sizeOf32 _) S.imm hb_11) rfl ?_))))
   clear E a; intro a E
   refine S_x (Qr E S rfl rfl rfl (yK hw_6 hu_7 (by omega) (by omega) (by omega) (by omega) (by omega)) (Hp.le.refl _) ?_)
   clear E a S; rintro a _ w M_12 hM_12 rfl S E
   refine S_v E rfl (Zk E rfl) rfl ?_
   clear E a; intro a E
   refine Qc (T_n ?_)
   refine QL E rfl (fun hc_13 => ?_) (fun hc_13 => ?_)
   ·refine Qb ?_
    refine Qa (S_a E rfl rfl ?_)
    clear E a; intro a E
    refine Qc (T_n (Qe (B_r ?_)))
    refine T_r ?_
    refine T_r ?_
    refine B_r ?_
    refine T_r ?_
    exact Qg E Tryz.results6 rfl ⟨_, rfl, M_12, (hM_2.trans (hM_10.trans hM_12)), (bF (by (intro h9; have h8 := h9.2 _ (List.mem_of_getElem? (by assumption)); simp_all; done))), S⟩
   ·refine Qh ?_
    refine B_n (T_n (Qa (S_v E rfl (Qq (m := ((k + 1 : Nat) : Int)) E rfl rfl (by omega) (by omega)) rfl fun _ E1 => S_m E1 rfl rfl ?_)))
    clear E a E1; intro a E
    refine Qc (T_n ?_)
    exact ⟨k + 1, ⟨M_12, (hM_2.trans (hM_10.trans hM_12)), S, E.keep ⟨rfl, rfl, rfl, trivial⟩, by (omega), (by refine tkA (by assumption) (by assumption) ?_; simp_all; done)⟩, by omega⟩
  ·refine Qt (T_x (T_x (B_x (T_n (Qb (Qa (S_a E rfl rfl ?_)))))))
   clear E a; intro a E
   refine Qc (T_n (Qe ?_))
   exact Qg E Tryz.results6 rfl ⟨_, rfl, M_2, hM_2, (bT (by (exact ⟨by omega, tkE (by assumption) (by omega)⟩))), S⟩
theorem lo_Filter {M : Hp} {v0 : Value} {l0 : List Int} (h0 : RdI M v0 l0){v1 : Value} {f1 : Int → Int → Bool} (h1 : PF2B Tryz.prog v1 M f1) (hb : l0.length ≤ 1000000000000) :
  Pu Tryz.prog (.func (.func 15) #[] #[]) M [v0, v1] (fun r M' => RdI M' r (QP f1 0 l0)) := by
 refine Qk Tryz.func15 rfl Tryz.ntmps15 rfl Tryz.call15 ?_
 intro a w M1 H hM1 S E
 replace h0 := h0.le hM1
 replace h1 := h1.le hM1
 have b0 := h0.bound
 refine Qb (Qa (S_a E rfl rfl fun _ E1 => Qc (T_n (Qb (Qa (S_m E1 rfl rfl fun _ E2 => S_v E2 rfl (Qp E2 rfl T22 h0.len) rfl ?_))))))
 clear E a E1 E2; intro a E
 refine S_x (Jf (k := (l0).length) E S rfl rfl rfl T22 rfl (by omega) (by omega) (by omega) ?_)
 clear E a S; rintro a w v_1 E S
 replace S := S.made0
 refine S_a E rfl rfl fun _ E1 => Qc (T_n (Qb (Qb (Qa (S_m E1 rfl rfl fun _ E2 => S_v E2 rfl (Qp E2 rfl T22 h0.len) rfl fun _ E3 => S_m E3 rfl rfl ?_)))))
 clear E a E1 E2 E3; intro a E
 refine Qc (T_n (Qi ?_))
 replace S := S.re1 (l' := QP f1 0 (l0.take 0)) (by (simp [QP]; done))
 refine Qx (γ := Nat) (fun (k : Nat) a w => ∃ (M_2 : Hp) (u5 : Value), Hp.le M1 M_2 ∧ St w M_2 (QR 3 u5 (QP f1 0 (l0.take k)) :: H) ∧ Env a 31 [] [(0, v0), (1, v1), (5, u5), (11, .int .i64 (((l0).length : Nat) : Int)), (12, .int .i64 ((k : Nat) : Int))] ∧ (k ≤ (l0).length)) (fun k => ((l0).length) - k) 0 ⟨M1, _, Hp.le.refl _, S, E.keep ⟨rfl, rfl, rfl, rfl, rfl, trivial⟩, by (omega)⟩ ?_
 try clear E
 try clear S
 try clear a
 try clear w
 rintro k a w ⟨M_2, u5, hM_2, S, E, hL0_0⟩
 replace h0 := h0.le hM_2
 replace h1 := h1.le hM_2
 have hfl := Jv f1 (l0.take k) 0; simp only [List.length_take] at hfl
 refine Qb (Qa (S_v E rfl (QG E rfl rfl) rfl ?_))
 clear E a; intro a E
 refine Qc (T_n (Qb ?_))
 refine Qn E rfl (fun hc_3 => ?_) (fun hc_3 => ?_)
 ·refine Qh (T_n (Qb (Qi (Qb (Qa (S_m E rfl rfl fun _ E1 => S_a E1 rfl rfl fun _ E2 => Qc (T_n (Qb (Qa (S_m E2 rfl rfl fun _ E3 => S_m E3 rfl rfl fun _ E4 => S_m E4 rfl rfl ?_))))))))))
  clear E a E1 E2 E3 E4; intro a E
  obtain ⟨x_4, hx_4⟩ : ∃ x, (l0)[k]? = some x := ⟨_, List.getElem?_eq_getElem (by omega)⟩
  obtain ⟨p_5, hp_5, qp_5⟩ := h0.at hx_4
  refine S_v E rfl (QB E rfl rfl T22 hp_5 rfl) rfl fun _ E1 => S_v E1 rfl (Qj E1 rfl Tryz.isAgg3 S.imm qp_5) rfl fun _ E2 => S_m E2 rfl rfl ?_
  clear E a E1 E2; intro a E
  refine S_x (Qr E S rfl rfl rfl (h1.2 x_4 ((k : Nat) : Int)) (Hp.le.refl _) ?_)
  clear E a S; rintro a _ w M_6 hM_6 rfl S E
  replace h0 := h0.le hM_6
  refine Qc (T_n ?_)
  refine QL E rfl (fun hc_7 => ?_) (fun hc_7 => ?_)
  ·refine Qa ?_
   refine S_m E rfl rfl fun _ E1 => S_m E1 rfl rfl fun _ E2 => S_m E2 rfl rfl ?_
   clear E a E1 E2; intro a E
   obtain ⟨p_8, hp_8, qp_8⟩ := h0.at hx_4
   refine S_v E rfl (QB E rfl rfl T22 hp_8 rfl) rfl fun _ E1 => S_v E1 rfl (Qj E1 rfl Tryz.isAgg3 S.imm qp_8) rfl ?_
   clear E a E1; intro a E
   refine S_x (Qy (ys := [x_4]) E S rfl T22 rfl rfl rfl ?_)
   clear E a S; rintro a w v_9 E S
   replace S := S.front1
   replace S := S.front1
   refine S_x (QH (xs := QP f1 0 (l0.take k)) (ys := [x_4]) E S rfl rfl rfl T22 (by (simp; omega)) ?_)
   clear E a S; rintro a w v_10 E S
   refine S_a E rfl rfl fun _ E1 => Qc (B_n (T_n (Qa (S_v E1 rfl (Qq (m := ((k + 1 : Nat) : Int)) E1 rfl rfl (by omega) (by omega)) rfl fun _ E2 => S_m E2 rfl rfl ?_))))
   clear E a E1 E2; intro a E
   refine Qc (T_n ?_)
   replace S := S.re1 (l' := QP f1 0 (l0.take (k + 1))) (by (rw [Jb (by assumption)]; simp [*]; done))
   exact ⟨k + 1, ⟨M_6, _, (hM_2.trans hM_6), S, E.keep ⟨rfl, rfl, rfl, rfl, rfl, trivial⟩, by (omega)⟩, by omega⟩
  ·refine Qh ?_
   refine B_n (T_n (Qa (S_v E rfl (Qq (m := ((k + 1 : Nat) : Int)) E rfl rfl (by omega) (by omega)) rfl fun _ E1 => S_m E1 rfl rfl ?_)))
   clear E a E1; intro a E
   refine Qc (T_n ?_)
   replace S := S.re1 (l' := QP f1 0 (l0.take (k + 1))) (by (rw [Jb (by assumption)]; simp [*]; done))
   exact ⟨k + 1, ⟨M_6, _, (hM_2.trans hM_6), S, E.keep ⟨rfl, rfl, rfl, rfl, rfl, trivial⟩, by (omega)⟩, by omega⟩
 ·refine Qt (T_x (T_x (B_x (T_n (Qb (Qa (S_m E rfl rfl fun _ E1 => S_a E1 rfl rfl ?_)))))))
  clear E a E1; intro a E
  refine Qc (T_n (Qe ?_))
  have S0 := S; clear S
  obtain ⟨M_11, hM_11, hz_12, S⟩ := S0.freezeI (by (have hfl := Jv f1 (l0.take k) 0; simp only [List.length_take] at hfl; omega))
  clear S0
  exact Qg E Tryz.results15 rfl ⟨_, rfl, M_11, (hM_2.trans hM_11), (RdS.eqL hz_12 (by (rw [List.take_of_length_le (by omega)]))), S⟩
theorem zF {M : Hp} {x0 x1 : Int} (hn : x1 ≠ 0) (g1 : -9223372036854775808 ≤ x1 ∧ x1 ≤ 9223372036854775807) :
  Pu Tryz.prog (.func (.func 93) #[] #[]) M [.int .i64 x0, .int .i64 x1] (fun r M' => r = .int .i64 (x0 % x1)) := by
 refine Qk Tryz.func93 rfl Tryz.ntmps93 rfl Tryz.call93 ?_
 intro a w M1 H hM1 S E
 have ht := VO x0 x1 hn
 refine Qb (Qa (S_a E rfl rfl fun _ E1 => Qc (T_n (Qb (Qa (S_m E1 rfl rfl fun _ E2 => S_m E2 rfl rfl fun _ E3 => S_v E3 rfl (UH E3 rfl rfl (by omega)) rfl fun _ E4 => S_a E4 rfl rfl fun _ E5 => Qc (T_n (Qb (Qb (Qa (S_m E5 rfl rfl ?_)))))))))))
 clear E a E1 E2 E3 E4 E5; intro a E
 refine S_v E rfl (QG E rfl rfl) rfl ?_
 clear E a; intro a E
 refine Qc (T_n ?_)
 refine Qn E rfl (fun hc_1 => ?_) (fun hc_1 => ?_)
 ·refine Qb (Qb (Qa (S_m E rfl rfl fun _ E1 => S_v E1 rfl (QG E1 rfl rfl) rfl ?_)))
  clear E a E1; intro a E
  refine Qc (T_n ?_)
  refine Qn E rfl (fun hc_2 => ?_) (fun hc_2 => ?_)
  ·refine Qb (Qa (S_m E rfl rfl fun _ E1 => S_m E1 rfl rfl fun _ E2 => S_v E2 rfl (Jg (m := (Int.tmod x0 x1) - x1) E2 rfl rfl (by omega) (by omega)) rfl fun _ E3 => S_a E3 rfl rfl ?_))
   clear E a E1 E2 E3; intro a E
   refine Qc (T_n (Qe ?_))
   refine T_r ?_
   refine T_r ?_
   exact Qg E Tryz.results93 rfl ⟨_, rfl, M1, (Hp.le.refl _), (congrArg (Value.int .i64) (by omega)), S⟩
  ·refine Qh (T_n (Qb (Qa (S_m E rfl rfl fun _ E1 => S_m E1 rfl rfl fun _ E2 => S_v E2 rfl (Qq (m := (Int.tmod x0 x1) + x1) E2 rfl rfl (by omega) (by omega)) rfl fun _ E3 => S_a E3 rfl rfl ?_))))
   clear E a E1 E2 E3; intro a E
   refine Qc (T_n (Qe ?_))
   refine T_r ?_
   exact Qg E Tryz.results93 rfl ⟨_, rfl, M1, (Hp.le.refl _), (congrArg (Value.int .i64) (by omega)), S⟩
 ·refine Qh (T_n (Qb (Qa (S_m E rfl rfl fun _ E1 => S_a E1 rfl rfl ?_))))
  clear E a E1; intro a E
  refine Qc (T_n (Qe ?_))
  exact Qg E Tryz.results93 rfl ⟨_, rfl, M1, (Hp.le.refl _), (congrArg (Value.int .i64) (by omega)), S⟩
theorem slices_Index {M : Hp} {v0 : Value} {l0 : List Int} (h0 : RdI M v0 l0){x1 : Int} :
  Pu Tryz.prog (.func (.func 231) #[] #[]) M [v0, .int .i64 x1] (fun r M' => r = .int .i64 (idxOf l0 x1)) := by
 refine Qk Tryz.func231 rfl Tryz.ntmps231 rfl Tryz.call231 ?_
 intro a w M1 H hM1 S E
 replace h0 := h0.le hM1
 have b0 := h0.bound
 refine Qb (Qa (S_a E rfl rfl fun _ E1 => Qc (T_n (Qb (Qb (Qa (S_m E1 rfl rfl fun _ E2 => S_v E2 rfl (Qp E2 rfl T22 h0.len) rfl fun _ E3 => S_m E3 rfl rfl ?_)))))))
 clear E a E1 E2 E3; intro a E
 refine Qc (T_n (Qi ?_))
 refine Qx (γ := Nat) (fun (k : Nat) a w => ∃ (M_1 : Hp), Hp.le M1 M_1 ∧ St w M_1 (H) ∧ Env a 19 [] [(0, v0), (1, .int .i64 x1), (7, .int .i64 (((l0).length : Nat) : Int)), (8, .int .i64 ((k : Nat) : Int))] ∧ (k ≤ (l0).length) ∧ (∀ j, j < k → l0[j]? ≠ some x1)) (fun k => ((l0).length) - k) 0 ⟨M1, Hp.le.refl _, S, E.keep ⟨rfl, rfl, rfl, rfl, trivial⟩, by ((try clear S); (try clear E); first | assumption | omega | rfl | (simp; done) | (simp_all; done) | (simp [List.take_add_one, *]; done) | grind [List.take_add_one]), by ((try clear S); (try clear E); first | assumption | omega | rfl | (simp; done) | (simp_all; done) | (simp [List.take_add_one, *]; done) | grind [List.take_add_one])⟩ ?_
 try clear E
 try clear S
 try clear a
 try clear w
 rintro k a w ⟨M_1, hM_1, S, E, hL0_0, hL0_1⟩
 replace h0 := h0.le hM_1
 refine Qb (Qa (S_v E rfl (QG E rfl rfl) rfl ?_))
 clear E a; intro a E
 refine Qc (T_n (Qb ?_))
 refine Qn E rfl (fun hc_2 => ?_) (fun hc_2 => ?_)
 ·refine Qh (T_n (Qb (Qi (Qb (Qa (S_m E rfl rfl fun _ E1 => S_a E1 rfl rfl fun _ E2 => Qc (T_n (Qb (Qa (S_m E2 rfl rfl fun _ E3 => S_m E3 rfl rfl fun _ E4 => S_m E4 rfl rfl ?_))))))))))
  clear E a E1 E2 E3 E4; intro a E
  obtain ⟨x_3, hx_3⟩ : ∃ x, (l0)[k]? = some x := ⟨_, List.getElem?_eq_getElem (by first | omega | (simp; done) | (simp; omega) | (simp_all; omega))⟩
  obtain ⟨p_4, hp_4, qp_4⟩ := h0.at hx_3
  refine S_v E rfl (QB E rfl rfl T22 hp_4 rfl) rfl fun _ E1 => S_v E1 rfl (Qj E1 rfl Tryz.isAgg3 S.imm qp_4) rfl fun _ E2 => S_v E2 rfl (Qv E2 rfl rfl) rfl ?_
  clear E a E1 E2; intro a E
  refine Qc (T_n ?_)
  refine Qn E rfl (fun hc_5 => ?_) (fun hc_5 => ?_)
  ·refine Qb (Qa (S_m E rfl rfl fun _ E1 => S_a E1 rfl rfl ?_))
   clear E a E1; intro a E
   refine Qc (T_n (Qe (B_r ?_)))
   refine T_r ?_
   refine T_r ?_
   refine B_r ?_
   refine T_r ?_
   exact Qg E Tryz.results231 rfl ⟨_, rfl, M_1, hM_1, (congrArg (Value.int .i64) (by (rw [idxOf_some (k := k) (by simp_all) hL0_1]))), S⟩
  ·refine Qh (B_n (T_n (Qa (S_v E rfl (Qq (m := ((k + 1 : Nat) : Int)) E rfl rfl (by omega) (by omega)) rfl fun _ E1 => S_m E1 rfl rfl ?_))))
   clear E a E1; intro a E
   refine Qc (T_n ?_)
   exact ⟨k + 1, ⟨M_1, hM_1, S, E.keep ⟨rfl, rfl, rfl, rfl, trivial⟩, by ((try clear S); (try clear E); first | assumption | omega | rfl | (simp; done) | (simp_all; done) | (simp [List.take_add_one, *]; done) | grind [List.take_add_one]), by ((try clear S); (try clear E); first | assumption | omega | rfl | (simp; done) | (simp_all; done) | (simp [List.take_add_one, *]; done) | grind [List.take_add_one])⟩, by omega⟩
 ·refine Qt (T_x (T_x (B_x (T_n (Qb (Qa (S_a E rfl rfl ?_)))))))
  clear E a; intro a E
  refine Qc (T_n (Qe ?_))
  exact Qg E Tryz.results231 rfl ⟨_, rfl, M_1, hM_1, (congrArg (Value.int .i64) (by (rw [zQ (fun j e => by have := (List.getElem?_eq_some_iff.1 e).1; exact hL0_1 j (by omega) e)]))), S⟩
theorem slices_Contains {M : Hp} {v0 : Value} {l0 : List Int} (h0 : RdI M v0 l0){x1 : Int} :
  Pu Tryz.prog (.func (.func 94) #[] #[]) M [v0, .int .i64 x1] (fun r M' => r = .bool (decide (x1 ∈ l0))) := by
 refine Qk Tryz.func94 rfl Tryz.ntmps94 rfl Tryz.call94 ?_
 intro a w M1 H hM1 S E
 replace h0 := h0.le hM1
 have b0 := h0.bound
 refine Qb (Qa (S_a E rfl rfl fun _ E1 => Qc (T_n (Qb (Qa (S_m E1 rfl rfl fun _ E2 => S_m E2 rfl rfl ?_))))))
 clear E a E1 E2; intro a E
 refine S_x (Qr E S rfl rfl rfl (slices_Index h0) (Hp.le.refl _) ?_)
 clear E a S; rintro a _ w M_1 hM_1 rfl S E
 refine S_v E rfl (YV E rfl rfl) rfl fun _ E1 => S_a E1 rfl rfl ?_
 clear E a E1; intro a E
 refine Qc (T_n (Qe ?_))
 exact Qg E Tryz.results94 rfl ⟨_, rfl, M_1, hM_1, (congrArg Value.bool (by (exact idxOf_mem _ _))), S⟩
theorem yk {M : Hp} {pk0 pn0 : Int} {w0 : Value} {pl0 : List Int} (hw0 : RdI M w0 pl0) (gn0 : -9223372036854775808 ≤ pn0 ∧ pn0 ≤ 9223372036854775807){x1 x2 : Int} :
  PuC Tryz.prog 16 M [.agg #[.int .i64 pk0, .int .i64 pn0, w0], .int .i64 x1, .int .i64 x2] (fun r M' => r = .bool (QF pk0 pn0 pl0 x1 x2)) := by
 refine YJ Tryz.func16 rfl Tryz.ntmps16 rfl ?_
 intro a w M1 H hM1 S E
 replace hw0 := hw0.le hM1
 have bw0 := hw0.bound
 refine Qb (Qa ?_)
 refine S_x (Jc (cs := #[.int .i64 pk0, .int .i64 pn0, w0]) E S rfl rfl rfl ?_)
 clear E a S; rintro a w b_1 E S
 obtain ⟨M_2, hM_2, hb_1, S⟩ := S.freezeB
 replace hw0 := hw0.le hM_2
 refine S_a E rfl rfl fun _ E1 => Qc (T_n (Qb (Qb (Qa (S_v E1 rfl (Ql E1 rfl (FA27_0 _)) rfl fun _ E2 => S_v E2 rfl (Qj E2 rfl Tryz.isAgg3 S.imm (Qo hb_1 rfl)) rfl fun _ E3 => Qc (T_n (Qi (Qb (Qa (S_v E3 rfl (Qv E3 rfl rfl) rfl fun _ E4 => S_a E4 rfl rfl ?_))))))))))
 clear E a E1 E2 E3 E4; intro a E
 refine Qc (T_n ?_)
 refine Qn E rfl (fun hc_3 => ?_) (fun hc_3 => ?_)
 ·refine Qb (Qa (S_m E rfl rfl fun _ E1 => S_v E1 rfl (Ql E1 rfl (WX _)) rfl fun _ E2 => S_v E2 rfl (Qj E2 rfl Tryz.isAgg3 S.imm (Qo hb_1 rfl)) rfl fun _ E3 => S_v E3 rfl (QG E3 rfl rfl) rfl fun _ E4 => S_a E4 rfl rfl ?_))
  clear E a E1 E2 E3 E4; intro a E
  refine Qc (T_n (Qe (B_r ?_)))
  refine T_r ?_
  exact Qg E Tryz.results16 rfl ⟨_, rfl, M_2, hM_2, (congrArg Value.bool (by (clear E S; unfold QF; first | (have e := (Zc (l := pl0) (by assumption)).1; simp_all; done) | (have e : pl0 = [] := List.eq_nil_of_length_eq_zero (by omega); simp_all; done) | (simp_all; done)))), S⟩
 ·refine Qb (Qa (S_v E rfl (Qv E rfl rfl) rfl fun _ E1 => S_a E1 rfl rfl ?_))
  clear E a E1; intro a E
  refine Qc (T_n ?_)
  refine Qn E rfl (fun hc_4 => ?_) (fun hc_4 => ?_)
  ·refine Qb (Qa (S_a E rfl rfl fun _ E1 => Qc (T_n (Qb (Qb (Qa (S_v E1 rfl (Ql E1 rfl (jj _)) rfl fun _ E2 => S_v E2 rfl (Qj E2 rfl Tryz.isAgg22 S.imm (Qo hb_1 rfl)) rfl fun _ E3 => S_v E3 rfl (Qp E3 rfl T22 hw0.len) rfl fun _ E4 => S_v E4 rfl (JT E4 rfl rfl) rfl ?_)))))))
   clear E a E1 E2 E3 E4; intro a E
   refine Qc (T_n ?_)
   refine Qn E rfl (fun hc_5 => ?_) (fun hc_5 => ?_)
   ·refine Qa (S_v E rfl (Ql E rfl (jj _)) rfl fun _ E1 => S_v E1 rfl (Qj E1 rfl Tryz.isAgg22 S.imm (Qo hb_1 rfl)) rfl ?_)
    clear E a E1; intro a E
    obtain ⟨x_6, hx_6⟩ : ∃ x, (pl0)[0]? = some x := ⟨_, List.getElem?_eq_getElem (by omega)⟩
    obtain ⟨p_7, hp_7, qp_7⟩ := hw0.at hx_6
    refine S_v E rfl (QB E rfl rfl T22 hp_7 (by omega)) rfl fun _ E1 => S_v E1 rfl (Qj E1 rfl Tryz.isAgg3 S.imm qp_7) rfl fun _ E2 => S_a E2 rfl rfl fun _ E3 => Qc (T_n (Qb (Qa (S_v E3 rfl (Ql E3 rfl (WX _)) rfl fun _ E4 => S_v E4 rfl (Qj E4 rfl Tryz.isAgg3 S.imm (Qo hb_1 rfl)) rfl fun _ E5 => S_v E5 rfl (Yv E5 rfl rfl) rfl ?_))))
    clear E a E1 E2 E3 E4 E5; intro a E
    refine S_m E rfl rfl ?_
    clear E a; intro a E
    refine QK (decide (pn0 ≠ 0)) (fun hc_8 => ?_) (fun hc_8 => ?_)
    ·replace E := E.val (t := 28) rfl hc_8
     replace E := E.val (t := 29) rfl hc_8
     replace hc_8 := of_decide_eq_true hc_8
     refine Qf E rfl rfl ?_
     refine S_m E rfl rfl ?_
     clear E a; intro a E
     refine Qf E rfl rfl ?_
     refine S_v E rfl (Ql E rfl (WX _)) rfl ?_
     clear E a; intro a E
     refine Qf E rfl rfl ?_
     refine S_v E rfl (Qj E rfl Tryz.isAgg3 S.imm (Qo hb_1 rfl)) rfl ?_
     clear E a; intro a E
     refine Qf E rfl rfl ?_
     refine S_x (Qr E S rfl rfl rfl (zF (by omega) (by omega)) (Hp.le.refl _) ?_)
     clear E a S; rintro a _ w M_9 hM_9 rfl S E
     replace hw0 := hw0.le hM_9
     replace hb_1 := hM_9.2 _ _ hb_1
     refine Qf E rfl rfl ?_
     refine S_m E rfl rfl ?_
     clear E a; intro a E
     refine Qf E rfl rfl ?_
     refine S_v E rfl (Qv E rfl rfl) rfl fun _ E1 => S_v E1 rfl (QZ E1 rfl rfl) rfl fun _ E2 => S_a E2 rfl rfl ?_
     clear E a E1 E2; intro a E
     refine Qc (T_n (Qe (B_r ?_)))
     refine T_r ?_
     exact Qg E Tryz.results16 rfl ⟨_, rfl, M_9, (hM_2.trans hM_9), (congrArg Value.bool (by (clear E S; unfold QF; first | (have e := (Zc (l := pl0) (by assumption)).1; simp_all; done) | (have e : pl0 = [] := List.eq_nil_of_length_eq_zero (by omega); simp_all; done) | (simp_all; done)))), S⟩
    ·replace E := E.val (t := 28) rfl hc_8
     replace E := E.val (t := 29) rfl hc_8
     replace hc_8 := of_decide_eq_false hc_8
     refine Qd E rfl rfl rfl rfl fun a E => ?_
     refine Qd E rfl rfl rfl rfl fun a E => ?_
     refine Qd E rfl rfl rfl rfl fun a E => ?_
     refine Qd E rfl rfl rfl rfl fun a E => ?_
     refine Qd E rfl rfl rfl rfl fun a E => ?_
     refine Qd E rfl rfl rfl rfl fun a E => ?_
     refine S_v E rfl (QQ E rfl rfl) rfl fun _ E1 => S_a E1 rfl rfl ?_
     clear E a E1; intro a E
     refine Qc (T_n (Qe (B_r ?_)))
     refine T_r ?_
     exact Qg E Tryz.results16 rfl ⟨_, rfl, M_2, hM_2, (congrArg Value.bool (by (clear E S; unfold QF; first | (have e := (Zc (l := pl0) (by assumption)).1; simp_all; done) | (have e : pl0 = [] := List.eq_nil_of_length_eq_zero (by omega); simp_all; done) | (simp_all; done)))), S⟩
   ·refine Qh (T_n (Qb (Qa (S_v E rfl (Ql E rfl (WX _)) rfl fun _ E1 => S_v E1 rfl (Qj E1 rfl Tryz.isAgg3 S.imm (Qo hb_1 rfl)) rfl fun _ E2 => S_v E2 rfl (Yv E2 rfl rfl) rfl fun _ E3 => S_m E3 rfl rfl ?_))))
    clear E a E1 E2 E3; intro a E
    refine QK (decide (pn0 ≠ 0)) (fun hc_10 => ?_) (fun hc_10 => ?_)
    ·replace E := E.val (t := 28) rfl hc_10
     replace E := E.val (t := 29) rfl hc_10
     replace hc_10 := of_decide_eq_true hc_10
     refine Qf E rfl rfl ?_
     refine S_m E rfl rfl ?_
     clear E a; intro a E
     refine Qf E rfl rfl ?_
     refine S_v E rfl (Ql E rfl (WX _)) rfl ?_
     clear E a; intro a E
     refine Qf E rfl rfl ?_
     refine S_v E rfl (Qj E rfl Tryz.isAgg3 S.imm (Qo hb_1 rfl)) rfl ?_
     clear E a; intro a E
     refine Qf E rfl rfl ?_
     refine S_x (Qr E S rfl rfl rfl (zF (by omega) (by omega)) (Hp.le.refl _) ?_)
     clear E a S; rintro a _ w M_11 hM_11 rfl S E
     replace hw0 := hw0.le hM_11
     replace hb_1 := hM_11.2 _ _ hb_1
     refine Qf E rfl rfl ?_
     refine S_m E rfl rfl ?_
     clear E a; intro a E
     refine Qf E rfl rfl ?_
     refine S_v E rfl (Qv E rfl rfl) rfl fun _ E1 => S_v E1 rfl (QZ E1 rfl rfl) rfl fun _ E2 => S_a E2 rfl rfl ?_
     clear E a E1 E2; intro a E
     refine Qc (T_n (Qe (B_r ?_)))
     refine T_r ?_
     exact Qg E Tryz.results16 rfl ⟨_, rfl, M_11, (hM_2.trans hM_11), (congrArg Value.bool (by (clear E S; unfold QF; first | (have e := (Zc (l := pl0) (by assumption)).1; simp_all; done) | (have e : pl0 = [] := List.eq_nil_of_length_eq_zero (by omega); simp_all; done) | (simp_all; done)))), S⟩
    ·replace E := E.val (t := 28) rfl hc_10
     replace E := E.val (t := 29) rfl hc_10
     replace hc_10 := of_decide_eq_false hc_10
     refine Qd E rfl rfl rfl rfl fun a E => ?_
     refine Qd E rfl rfl rfl rfl fun a E => ?_
     refine Qd E rfl rfl rfl rfl fun a E => ?_
     refine Qd E rfl rfl rfl rfl fun a E => ?_
     refine Qd E rfl rfl rfl rfl fun a E => ?_
     refine Qd E rfl rfl rfl rfl fun a E => ?_
     refine S_v E rfl (QQ E rfl rfl) rfl fun _ E1 => S_a E1 rfl rfl ?_
     clear E a E1; intro a E
     refine Qc (T_n (Qe (B_r ?_)))
     refine T_r ?_
     exact Qg E Tryz.results16 rfl ⟨_, rfl, M_2, hM_2, (congrArg Value.bool (by (clear E S; unfold QF; first | (have e := (Zc (l := pl0) (by assumption)).1; simp_all; done) | (have e : pl0 = [] := List.eq_nil_of_length_eq_zero (by omega); simp_all; done) | (simp_all; done)))), S⟩
  ·refine Qb (Qa (S_v E rfl (Qv E rfl rfl) rfl fun _ E1 => S_a E1 rfl rfl ?_))
   clear E a E1; intro a E
   refine Qc (T_n ?_)
   refine Qn E rfl (fun hc_12 => ?_) (fun hc_12 => ?_)
   ·refine Qb (Qa (S_v E rfl (Ql E rfl (jj _)) rfl fun _ E1 => S_v E1 rfl (Qj E1 rfl Tryz.isAgg22 S.imm (Qo hb_1 rfl)) rfl fun _ E2 => S_m E2 rfl rfl ?_))
    clear E a E1 E2; intro a E
    refine S_x (Qr E S rfl rfl rfl (slices_Contains hw0) (Hp.le.refl _) ?_)
    clear E a S; rintro a _ w M_13 hM_13 rfl S E
    replace hw0 := hw0.le hM_13
    replace hb_1 := hM_13.2 _ _ hb_1
    refine S_a E rfl rfl ?_
    clear E a; intro a E
    refine Qc (T_n (Qe (B_r ?_)))
    refine T_r ?_
    exact Qg E Tryz.results16 rfl ⟨_, rfl, M_13, (hM_2.trans hM_13), (congrArg Value.bool (by (clear E S; unfold QF; first | (have e := (Zc (l := pl0) (by assumption)).1; simp_all; done) | (have e : pl0 = [] := List.eq_nil_of_length_eq_zero (by omega); simp_all; done) | (simp_all; done)))), S⟩
   ·refine Qb (Qa (S_v E rfl (Qv E rfl rfl) rfl fun _ E1 => S_a E1 rfl rfl ?_))
    clear E a E1; intro a E
    refine Qc (T_n ?_)
    refine Qn E rfl (fun hc_14 => ?_) (fun hc_14 => ?_)
    ·refine Qb (Qa (S_m E rfl rfl fun _ E1 => S_v E1 rfl (UH E1 rfl rfl (by decide)) rfl fun _ E2 => S_v E2 rfl (Qv E2 rfl rfl) rfl fun _ E3 => S_a E3 rfl rfl ?_))
     clear E a E1 E2 E3; intro a E
     refine Qc (T_n (Qe (B_r ?_)))
     refine T_r ?_
     exact Qg E Tryz.results16 rfl ⟨_, rfl, M_2, hM_2, (congrArg Value.bool (by (clear E S; unfold QF; first | (have e := (Zc (l := pl0) (by assumption)).1; simp_all; done) | (have e : pl0 = [] := List.eq_nil_of_length_eq_zero (by omega); simp_all; done) | (simp_all; done)))), S⟩
    ·refine Qh (B_n (T_n (Qb (Qa (S_v E rfl (Ql E rfl (FA27_0 _)) rfl fun _ E1 => S_v E1 rfl (Qj E1 rfl Tryz.isAgg3 S.imm (Qo hb_1 rfl)) rfl fun _ E2 => S_v E2 rfl (Qv E2 rfl rfl) rfl fun _ E3 => S_a E3 rfl rfl ?_)))))
     clear E a E1 E2 E3; intro a E
     refine Qc (T_n (Qe ?_))
     exact Qg E Tryz.results16 rfl ⟨_, rfl, M_2, hM_2, (congrArg Value.bool (by (clear E S; unfold QF; first | (have e := (Zc (l := pl0) (by assumption)).1; simp_all; done) | (have e : pl0 = [] := List.eq_nil_of_length_eq_zero (by omega); simp_all; done) | (simp_all; done)))), S⟩
theorem vm {M : Hp} {pk0 pn0 : Int} {w0 : Value} {pl0 : List Int} (hw0 : RdI M w0 pl0) (gn0 : -9223372036854775808 ≤ pn0 ∧ pn0 ≤ 9223372036854775807){x1 x2 : Int} :
  Pu Tryz.prog (.func (.func 16) #[.agg #[.int .i64 pk0, .int .i64 pn0, w0]] #[]) M [.int .i64 x1, .int .i64 x2] (fun r M' => r = .bool (QF pk0 pn0 pl0 x1 x2)) := PuC.pu Tryz.call16 rfl (yk hw0 gn0)
theorem yj {M : Hp} {pk0 pn0 : Int} {w0 : Value} {pl0 : List Int} (hw0 : RdI M w0 pl0) (gn0 : -9223372036854775808 ≤ pn0 ∧ pn0 ≤ 9223372036854775807){x1 x2 : Int} :
  Pu Tryz.prog (.func (.func 16) #[] #[]) M [.agg #[.int .i64 pk0, .int .i64 pn0, w0], .int .i64 x1, .int .i64 x2] (fun r M' => r = .bool (QF pk0 pn0 pl0 x1 x2)) := PuC.pu Tryz.call16 rfl (yk hw0 gn0)
theorem qn {M : Hp} {v0 : Value} {l0 : List Int} (h0 : RdI M v0 l0){pk1 pn1 : Int} {w1 : Value} {pl1 : List Int} (hw1 : RdI M w1 pl1) (gn1 : -9223372036854775808 ≤ pn1 ∧ pn1 ≤ 9223372036854775807) (hb : l0.length ≤ 1000000000000) :
  Pu Tryz.prog (.func (.func 7) #[] #[]) M [v0, .agg #[.int .i64 pk1, .int .i64 pn1, w1]] (fun r M' => RdI M' r (QP (QF pk1 pn1 pl1) 0 l0)) := by
 refine Qk Tryz.func7 rfl Tryz.ntmps7 rfl Tryz.call7 ?_
 intro a w M1 H hM1 S E
 replace h0 := h0.le hM1
 replace hw1 := hw1.le hM1
 have b0 := h0.bound
 refine Qb (Qa ?_)
 refine S_x (Jc (cs := #[.int .i64 pk1, .int .i64 pn1, w1]) E S rfl rfl rfl ?_)
 clear E a S; rintro a w b_1 E S
 obtain ⟨M_2, hM_2, hb_1, S⟩ := S.freezeB
 replace h0 := h0.le hM_2
 replace hw1 := hw1.le hM_2
 refine S_a E rfl rfl fun _ E1 => Qc (T_n (Qb (Qa (S_m E1 rfl rfl fun _ E2 => S_v E2 rfl (QA E2 rfl (Tryz.isAgg27 _) (Tryz.sizeOf27 _) S.imm hb_1) rfl fun _ E3 => S_v E3 rfl (QT E3 rfl rfl) rfl ?_))))
 clear E a E1 E2 E3; intro a E
 refine S_x (Qr E S rfl rfl rfl (lo_Filter h0 ⟨rfl, fun zx1 zx2 => vm (x1 := zx1) (x2 := zx2) hw1 (by omega)⟩ (by (omega))) (Hp.le.refl _) ?_)
 clear E a S; rintro a v_4 w M_3 hM_3 hv_4 S E
 refine S_a E rfl rfl ?_
 clear E a; intro a E
 refine Qc (T_n (Qe ?_))
 exact Qg E Tryz.results7 rfl ⟨_, rfl, M_3, (hM_2.trans hM_3), hv_4, S⟩
theorem laws_fair {M : Hp} {pk0 pn0 : Int} {w0 : Value} {pl0 : List Int} (hw0 : RdI M w0 pl0) (gn0 : -9223372036854775808 ≤ pn0 ∧ pn0 ≤ 9223372036854775807) :
  Pu Tryz.prog (.func (.func 17) #[] #[]) M [.agg #[.int .i64 pk0, .int .i64 pn0, w0]] (fun r M' => r = .bool (decide ((-1099511627776 < pn0 ∧ pn0 < 1099511627776) ∧ (pl0).length ≤ 300))) := by
 refine Qk Tryz.func17 rfl Tryz.ntmps17 rfl Tryz.call17 ?_
 intro a w M1 H hM1 S E
 replace hw0 := hw0.le hM1
 have bw0 := hw0.bound
 refine Qb (Qa ?_)
 refine S_x (Jc (cs := #[.int .i64 pk0, .int .i64 pn0, w0]) E S rfl rfl rfl ?_)
 clear E a S; rintro a w b_1 E S
 obtain ⟨M_2, hM_2, hb_1, S⟩ := S.freezeB
 replace hw0 := hw0.le hM_2
 refine S_a E rfl rfl fun _ E1 => Qc (T_n (Qb (Qa (S_v E1 rfl (Ql E1 rfl (WX _)) rfl fun _ E2 => S_v E2 rfl (Qj E2 rfl Tryz.isAgg3 S.imm (Qo hb_1 rfl)) rfl fun _ E3 => S_v E3 rfl (JT E3 rfl rfl) rfl fun _ E4 => S_m E4 rfl rfl ?_))))
 clear E a E1 E2 E3 E4; intro a E
 refine QK (decide ((-1099511627776) < pn0)) (fun hc_3 => ?_) (fun hc_3 => ?_)
 ·replace E := E.val (t := 5) rfl hc_3
  replace E := E.val (t := 6) rfl hc_3
  replace hc_3 := of_decide_eq_true hc_3
  refine Qf E rfl rfl ?_
  refine S_v E rfl (Ql E rfl (WX _)) rfl ?_
  clear E a; intro a E
  refine Qf E rfl rfl ?_
  refine S_v E rfl (Qj E rfl Tryz.isAgg3 S.imm (Qo hb_1 rfl)) rfl ?_
  clear E a; intro a E
  refine Qf E rfl rfl ?_
  refine S_v E rfl (QG E rfl rfl) rfl fun _ E1 => S_v E1 rfl (QZ E1 rfl rfl) rfl fun _ E2 => S_m E2 rfl rfl ?_
  clear E a E1 E2; intro a E
  refine QK (decide (pn0 < 1099511627776)) (fun hc_4 => ?_) (fun hc_4 => ?_)
  ·replace E := E.val (t := 9) rfl hc_4
   replace E := E.val (t := 10) rfl hc_4
   replace E := E.val (t := 11) rfl hc_4
   replace hc_4 := of_decide_eq_true hc_4
   refine Qf E rfl rfl ?_
   refine S_v E rfl (Ql E rfl (jj _)) rfl ?_
   clear E a; intro a E
   refine Qf E rfl rfl ?_
   refine S_v E rfl (Qj E rfl Tryz.isAgg22 S.imm (Qo hb_1 rfl)) rfl ?_
   clear E a; intro a E
   refine Qf E rfl rfl ?_
   refine S_v E rfl (Qp E rfl T22 hw0.len) rfl ?_
   clear E a; intro a E
   refine Qf E rfl rfl ?_
   refine S_v E rfl (ZV E rfl rfl) rfl fun _ E1 => S_v E1 rfl (QZ E1 rfl rfl) rfl fun _ E2 => S_a E2 rfl rfl ?_
   clear E a E1 E2; intro a E
   refine Qc (T_n (Qe ?_))
   exact Qg E Tryz.results17 rfl ⟨_, rfl, M_2, hM_2, (congrArg Value.bool (by ((try clear S); (try clear E); first | assumption | omega | rfl | (simp; done) | (simp_all; done) | (simp [List.take_add_one, *]; done) | grind [List.take_add_one]))), S⟩
  ·replace E := E.val (t := 9) rfl hc_4
   replace E := E.val (t := 10) rfl hc_4
   replace E := E.val (t := 11) rfl hc_4
   replace hc_4 := of_decide_eq_false hc_4
   refine Qd E rfl rfl rfl rfl fun a E => ?_
   refine Qd E rfl rfl rfl rfl fun a E => ?_
   refine Qd E rfl rfl rfl rfl fun a E => ?_
   refine Qd E rfl rfl rfl rfl fun a E => ?_
   refine S_v E rfl (QQ E rfl rfl) rfl fun _ E1 => S_a E1 rfl rfl ?_
   clear E a E1; intro a E
   refine Qc (T_n (Qe ?_))
   exact Qg E Tryz.results17 rfl ⟨_, rfl, M_2, hM_2, (bF (by ((try clear S); (try clear E); first | assumption | omega | rfl | (simp; done) | (simp_all; done) | (simp [List.take_add_one, *]; done) | grind [List.take_add_one]))), S⟩
 ·replace E := E.val (t := 5) rfl hc_3
  replace E := E.val (t := 6) rfl hc_3
  replace hc_3 := of_decide_eq_false hc_3
  refine Qd E rfl rfl rfl rfl fun a E => ?_
  refine Qd E rfl rfl rfl rfl fun a E => ?_
  refine Qd E rfl rfl rfl rfl fun a E => ?_
  refine S_v E rfl (QQ E rfl rfl) rfl fun _ E1 => S_m E1 rfl rfl ?_
  clear E a E1; intro a E
  refine Qd E rfl rfl rfl rfl fun a E => ?_
  refine Qd E rfl rfl rfl rfl fun a E => ?_
  refine Qd E rfl rfl rfl rfl fun a E => ?_
  refine Qd E rfl rfl rfl rfl fun a E => ?_
  refine S_v E rfl (QQ E rfl rfl) rfl fun _ E1 => S_a E1 rfl rfl ?_
  clear E a E1; intro a E
  refine Qc (T_n (Qe ?_))
  exact Qg E Tryz.results17 rfl ⟨_, rfl, M_2, hM_2, (bF (by ((try clear S); (try clear E); first | assumption | omega | rfl | (simp; done) | (simp_all; done) | (simp [List.take_add_one, *]; done) | grind [List.take_add_one]))), S⟩
theorem laws_just {M : Hp} {kk0 kn0 : Int} (gk0 : -9223372036854775808 ≤ kn0 ∧ kn0 ≤ 9223372036854775807) :
  Pu Tryz.prog (.func (.func 18) #[] #[]) M [.agg #[.int .i64 kk0, .int .i64 kn0]] (fun r M' => r = .bool (decide (-1099511627776 < kn0 ∧ kn0 < 1099511627776))) := by
 refine Qk Tryz.func18 rfl Tryz.ntmps18 rfl Tryz.call18 ?_
 intro a w M1 H hM1 S E
 refine Qb (Qa ?_)
 refine S_x (Jc (cs := #[.int .i64 kk0, .int .i64 kn0]) E S rfl rfl rfl ?_)
 clear E a S; rintro a w b_1 E S
 obtain ⟨M_2, hM_2, hb_1, S⟩ := S.freezeB
 refine S_a E rfl rfl fun _ E1 => Qc (T_n (Qb (Qa (S_v E1 rfl (Ql E1 rfl (WW _)) rfl fun _ E2 => S_v E2 rfl (Qj E2 rfl Tryz.isAgg3 S.imm (Qo hb_1 rfl)) rfl fun _ E3 => S_v E3 rfl (JT E3 rfl rfl) rfl fun _ E4 => S_m E4 rfl rfl ?_))))
 clear E a E1 E2 E3 E4; intro a E
 refine QK (decide ((-1099511627776) < kn0)) (fun hc_3 => ?_) (fun hc_3 => ?_)
 ·replace E := E.val (t := 5) rfl hc_3
  replace E := E.val (t := 6) rfl hc_3
  replace hc_3 := of_decide_eq_true hc_3
  refine Qf E rfl rfl ?_
  refine S_v E rfl (Ql E rfl (WW _)) rfl ?_
  clear E a; intro a E
  refine Qf E rfl rfl ?_
  refine S_v E rfl (Qj E rfl Tryz.isAgg3 S.imm (Qo hb_1 rfl)) rfl ?_
  clear E a; intro a E
  refine Qf E rfl rfl ?_
  refine S_v E rfl (QG E rfl rfl) rfl fun _ E1 => S_v E1 rfl (QZ E1 rfl rfl) rfl fun _ E2 => S_a E2 rfl rfl ?_
  clear E a E1 E2; intro a E
  refine Qc (T_n (Qe ?_))
  exact Qg E Tryz.results18 rfl ⟨_, rfl, M_2, hM_2, (congrArg Value.bool (by ((try clear S); (try clear E); (simp_all; done)))), S⟩
 ·replace E := E.val (t := 5) rfl hc_3
  replace E := E.val (t := 6) rfl hc_3
  replace hc_3 := of_decide_eq_false hc_3
  refine Qd E rfl rfl rfl rfl fun a E => ?_
  refine Qd E rfl rfl rfl rfl fun a E => ?_
  refine Qd E rfl rfl rfl rfl fun a E => ?_
  refine S_v E rfl (QQ E rfl rfl) rfl fun _ E1 => S_a E1 rfl rfl ?_
  clear E a E1; intro a E
  refine Qc (T_n (Qe ?_))
  exact Qg E Tryz.results18 rfl ⟨_, rfl, M_2, hM_2, (bF (by (omega))), S⟩
theorem YR {M : Hp} {x0 x1 : Int} (hn : x1 ≠ 0) (g1 : -1099511627776 < x1 ∧ x1 < 1099511627776) :
  Pu Tryz.prog (.func (.func 19) #[] #[]) M [.int .i64 x0, .int .i64 x1] (fun r M' => r = .int .i64 (x0 % x1)) := by
 refine Qk Tryz.func19 rfl Tryz.ntmps19 rfl Tryz.call19 ?_
 intro a w M1 H hM1 S E
 have ht := VO x0 x1 hn
 have ht2 := VO x0 (-x1) (by omega)
 have he : x0 % (-x1) = x0 % x1 := Int.emod_neg ..
 refine Qb (Qa (S_a E rfl rfl fun _ E1 => Qc (T_n (Qb (Qb (Qa (S_m E1 rfl rfl fun _ E2 => S_v E2 rfl (QG E2 rfl rfl) rfl ?_)))))))
 clear E a E1 E2; intro a E
 refine Qc (T_n ?_)
 refine Qn E rfl (fun hc_1 => ?_) (fun hc_1 => ?_)
 ·refine Qa (S_m E rfl rfl fun _ E1 => S_v E1 rfl (R_negx (m := -x1) E1 rfl rfl (by omega)) rfl fun _ E2 => S_a E2 rfl rfl fun _ E3 => Qc (T_n (Qb (Qa (S_m E3 rfl rfl fun _ E4 => S_m E4 rfl rfl fun _ E5 => S_v E5 rfl (UH E5 rfl rfl (by omega)) rfl ?_)))))
  clear E a E1 E2 E3 E4 E5; intro a E
  refine S_a E rfl rfl fun _ E1 => Qc (T_n (Qb (Qb (Qa (S_m E1 rfl rfl fun _ E2 => S_v E2 rfl (QG E2 rfl rfl) rfl ?_)))))
  clear E a E1 E2; intro a E
  refine Qc (T_n ?_)
  refine Qn E rfl (fun hc_2 => ?_) (fun hc_2 => ?_)
  ·refine Qa (S_m E rfl rfl fun _ E1 => S_m E1 rfl rfl fun _ E2 => S_v E2 rfl (Qq (m := (Int.tmod x0 (-x1)) + (-x1)) E2 rfl rfl (by omega) (by omega)) rfl fun _ E3 => S_a E3 rfl rfl fun _ E4 => Qc (T_n (Qb (Qa (S_m E4 rfl rfl fun _ E5 => S_a E5 rfl rfl ?_)))))
   clear E a E1 E2 E3 E4 E5; intro a E
   refine Qc (T_n (Qe ?_))
   exact Qg E Tryz.results19 rfl ⟨_, rfl, M1, (Hp.le.refl _), (congrArg (Value.int .i64) (by omega)), S⟩
  ·refine Qh (T_n (Qb (Qa (S_m E rfl rfl fun _ E1 => S_a E1 rfl rfl ?_))))
   clear E a E1; intro a E
   refine Qc (T_n (Qe ?_))
   exact Qg E Tryz.results19 rfl ⟨_, rfl, M1, (Hp.le.refl _), (congrArg (Value.int .i64) (by omega)), S⟩
 ·refine Qh (T_n (Qb (Qa (S_m E rfl rfl fun _ E1 => S_m E1 rfl rfl fun _ E2 => S_v E2 rfl (UH E2 rfl rfl (by omega)) rfl fun _ E3 => S_a E3 rfl rfl fun _ E4 => Qc (T_n (Qb (Qb (Qa (S_m E4 rfl rfl fun _ E5 => S_v E5 rfl (QG E5 rfl rfl) rfl ?_)))))))))
  clear E a E1 E2 E3 E4 E5; intro a E
  refine Qc (T_n ?_)
  refine Qn E rfl (fun hc_3 => ?_) (fun hc_3 => ?_)
  ·refine Qa (S_m E rfl rfl fun _ E1 => S_m E1 rfl rfl fun _ E2 => S_v E2 rfl (Qq (m := (Int.tmod x0 x1) + x1) E2 rfl rfl (by omega) (by omega)) rfl fun _ E3 => S_a E3 rfl rfl fun _ E4 => Qc (T_n (Qb (Qa (S_m E4 rfl rfl fun _ E5 => S_a E5 rfl rfl ?_)))))
   clear E a E1 E2 E3 E4 E5; intro a E
   refine Qc (T_n (Qe ?_))
   exact Qg E Tryz.results19 rfl ⟨_, rfl, M1, (Hp.le.refl _), (congrArg (Value.int .i64) (by omega)), S⟩
  ·refine Qh (T_n (Qb (Qa (S_m E rfl rfl fun _ E1 => S_a E1 rfl rfl ?_))))
   clear E a E1; intro a E
   refine Qc (T_n (Qe ?_))
   exact Qg E Tryz.results19 rfl ⟨_, rfl, M1, (Hp.le.refl _), (congrArg (Value.int .i64) (by omega)), S⟩
theorem laws_light {M : Hp} {v0 : Value} {l0 : List Int} (h0 : RdI M v0 l0){v1 : Value} {l1 : List TSt} (h1 : RdS 9 RTS M v1 l1)  :
  Pu Tryz.prog (.func (.func 8) #[] #[]) M [v0, v1] (fun r M' => r = .bool (decide ((l0.length ≤ 200 ∧ l1.length ≤ 40) ∧ ∀ s ∈ l1, ZG s))) := by
 refine Qk Tryz.func8 rfl Tryz.ntmps8 rfl Tryz.call8 ?_
 intro a w M1 H hM1 S E
 replace h0 := h0.le hM1
 replace h1 := h1.le JJ hM1
 have b1 := h1.bound
 have b0 := h0.bound
 refine Qb (Qa (S_a E rfl rfl fun _ E1 => Qc (T_n (Qb (Qb (Qa (S_m E1 rfl rfl fun _ E2 => S_v E2 rfl (Qp E2 rfl T23 h1.len) rfl fun _ E3 => S_m E3 rfl rfl ?_)))))))
 clear E a E1 E2 E3; intro a E
 refine Qc (T_n (Qi ?_))
 refine Qx (γ := Nat) (fun (k : Nat) a w => ∃ (M_1 : Hp), Hp.le M1 M_1 ∧ St w M_1 (H) ∧ Env a 68 [] [(0, v0), (1, v1), (7, v1), (8, .int .i64 (((l1).length : Nat) : Int)), (9, .int .i64 ((k : Nat) : Int))] ∧ (k ≤ (l1).length) ∧ (∀ s ∈ l1.take k, ZG s)) (fun k => ((l1).length) - k) 0 ⟨M1, Hp.le.refl _, S, E.keep ⟨rfl, rfl, rfl, rfl, rfl, trivial⟩, by (omega), (by simp)⟩ ?_
 try clear E
 try clear S
 try clear a
 try clear w
 rintro k a w ⟨M_1, hM_1, S, E, hL0_0, hL0_1⟩
 replace h0 := h0.le hM_1
 replace h1 := h1.le JJ hM_1
 refine Qb (Qa (S_v E rfl (QG E rfl rfl) rfl ?_))
 clear E a; intro a E
 refine Qc (T_n (Qb ?_))
 refine Qn E rfl (fun hc_2 => ?_) (fun hc_2 => ?_)
 ·refine Qh (T_n (Qb (Qi (Qb (Qa ?_)))))
  obtain ⟨x_3, hx_3⟩ : ∃ x, (l1)[k]? = some x := ⟨_, List.getElem?_eq_getElem (by omega)⟩
  obtain ⟨p_4, w_5, u_6, hp_4, qp_4, hw_5, hu_6, gb_7⟩ := RdTS.at h1 hx_3
  have hrcu_6 := gb_7.2.2.2.2.2
  replace gb_7 := And.intro gb_7.1 (And.intro gb_7.2.1 (And.intro gb_7.2.2.1 (And.intro gb_7.2.2.2.1 gb_7.2.2.2.2.1)))
  have bu_6 := hu_6.bound
  have bw_5 := hw_5.bound
  refine S_v E rfl (QB E rfl rfl T23 hp_4 rfl) rfl fun _ E1 => S_v E1 rfl (vk (cs := [.int .i64 x_3.1, .int .i64 x_3.2.1, .int .i64 x_3.2.2.1, .int .i64 x_3.2.2.2.1, .int .i64 x_3.2.2.2.2.1, w_5, .int .i64 x_3.2.2.2.2.2.2.1, .int .i64 x_3.2.2.2.2.2.2.2.1, u_6]) E1 rfl (Tryz.isAgg32 _) (Tryz.sizeOf32 _) S.imm qp_4) rfl ?_
  clear E a E1; intro a E
  refine S_x (Jp (cs := #[.int .i64 0, .int .i64 0, .int .i64 0, .int .i64 0, .int .i64 0, .slice none 0 0, .int .i64 0, .int .i64 0, .slice none 0 0]) E S rfl Tryz.zeroValue32 rfl ?_)
  clear E a S; rintro a w b_8 E S
  refine Zr (Jz (us := [.int .i64 x_3.1, .int .i64 x_3.2.1, .int .i64 x_3.2.2.1, .int .i64 x_3.2.2.2.1, .int .i64 x_3.2.2.2.2.1, w_5, .int .i64 x_3.2.2.2.2.2.2.1, .int .i64 x_3.2.2.2.2.2.2.2.1, u_6]) E S rfl rfl (Tryz.sizeOf32 _) rfl (by intro u hu; simp only [List.mem_cons, List.not_mem_nil, or_false] at hu; rcases hu with rfl | rfl | rfl | rfl | rfl | rfl | rfl | rfl | rfl <;> first | exact rfl | exact rfl | exact rfl | exact rfl | exact rfl | exact (RdS.one' hw_5) | exact rfl | exact rfl | exact (RdS.one' hu_6)) ?_)
  clear E a S; rintro a w E S
  replace S : St w M_1 (blk b_8 (.cells #[.int .i64 x_3.1, .int .i64 x_3.2.1, .int .i64 x_3.2.2.1, .int .i64 x_3.2.2.2.1, .int .i64 x_3.2.2.2.2.1, w_5, .int .i64 x_3.2.2.2.2.2.2.1, .int .i64 x_3.2.2.2.2.2.2.2.1, u_6] 32) :: _) := S
  have S0 := S; clear S
  obtain ⟨M_9, hM_9, hb_10, S⟩ := S0.freezeB
  clear S0
  replace h0 := h0.le hM_9
  replace h1 := h1.le JJ hM_9
  replace hw_5 := hw_5.le hM_9
  replace hu_6 := hu_6.le hM_9
  refine Qc (T_n (Qb (Qa (S_v E rfl (Ql E rfl (Jl _)) rfl fun _ E1 => S_v E1 rfl (Qj E1 rfl Tryz.isAgg22 S.imm (Qo hb_10 rfl)) rfl fun _ E2 => S_v E2 rfl (Qp E2 rfl T22 hu_6.len) rfl fun _ E3 => S_v E3 rfl (JT E3 rfl rfl) rfl fun _ E4 => S_m E4 rfl rfl ?_))))
  clear E a E1 E2 E3 E4; intro a E
  refine QK (decide (50 < (((x_3.2.2.2.2.2.2.2.2).length : Nat) : Int))) (fun hc_11 => ?_) (fun hc_11 => ?_)
  ·replace E := E.val (t := 16) rfl hc_11
   replace E := E.val (t := 17) rfl hc_11
   replace hc_11 := of_decide_eq_true hc_11
   refine Qd E rfl rfl rfl rfl fun a E => ?_
   refine Qd E rfl rfl rfl rfl fun a E => ?_
   refine Qd E rfl rfl rfl rfl fun a E => ?_
   refine Qd E rfl rfl rfl rfl fun a E => ?_
   refine S_v E rfl (QZ E rfl rfl) rfl fun _ E1 => S_m E1 rfl rfl ?_
   clear E a E1; intro a E
   refine Qd E rfl rfl rfl rfl fun a E => ?_
   refine Qd E rfl rfl rfl rfl fun a E => ?_
   refine Qd E rfl rfl rfl rfl fun a E => ?_
   refine Qd E rfl rfl rfl rfl fun a E => ?_
   refine S_v E rfl (QZ E rfl rfl) rfl fun _ E1 => S_m E1 rfl rfl ?_
   clear E a E1; intro a E
   refine Qd E rfl rfl rfl rfl fun a E => ?_
   refine Qd E rfl rfl rfl rfl fun a E => ?_
   refine Qd E rfl rfl rfl rfl fun a E => ?_
   refine Qd E rfl rfl rfl rfl fun a E => ?_
   refine Qd E rfl rfl rfl rfl fun a E => ?_
   refine QE E rfl rfl rfl fun a E => ?_
   refine QE E rfl rfl rfl fun a E => ?_
   refine QE E rfl rfl rfl fun a E => ?_
   refine QE E rfl rfl rfl fun a E => ?_
   refine Qd E rfl rfl rfl rfl fun a E => ?_
   refine Qd E rfl rfl rfl rfl fun a E => ?_
   refine QE E rfl rfl rfl fun a E => ?_
   refine QE E rfl rfl rfl fun a E => ?_
   refine QE E rfl rfl rfl fun a E => ?_
   refine QE E rfl rfl rfl fun a E => ?_
   refine Qd E rfl rfl rfl rfl fun a E => ?_
   refine S_v E rfl (QZ E rfl rfl) rfl fun _ E1 => S_m E1 rfl rfl ?_
   clear E a E1; intro a E
   refine Qd E rfl rfl rfl rfl fun a E => ?_
   refine Qd E rfl rfl rfl rfl fun a E => ?_
   refine Qd E rfl rfl rfl rfl fun a E => ?_
   refine Qd E rfl rfl rfl rfl fun a E => ?_
   refine Qd E rfl rfl rfl rfl fun a E => ?_
   refine QE E rfl rfl rfl fun a E => ?_
   refine QE E rfl rfl rfl fun a E => ?_
   refine QE E rfl rfl rfl fun a E => ?_
   refine QE E rfl rfl rfl fun a E => ?_
   refine Qd E rfl rfl rfl rfl fun a E => ?_
   refine S_v E rfl (QZ E rfl rfl) rfl ?_
   clear E a; intro a E
   refine Qc (T_n ?_)
   refine ZK E rfl rfl ?_
   refine Qb (Qa (S_a E rfl rfl ?_))
   clear E a; intro a E
   refine Qc (T_n (Qe (B_r ?_)))
   refine T_r ?_
   refine T_r ?_
   refine B_r ?_
   refine T_r ?_
   exact Qg E Tryz.results8 rfl ⟨_, rfl, M_9, (hM_1.trans hM_9), (bF (by (intro h9; have h8 := h9.2 _ (List.mem_of_getElem? (by assumption)); unfold ZG at h8; first | (simp_all; done) | (simp_all; omega)))), S⟩
  ·replace E := E.val (t := 16) rfl hc_11
   replace E := E.val (t := 17) rfl hc_11
   replace hc_11 := of_decide_eq_false hc_11
   refine Qf E rfl rfl ?_
   refine S_v E rfl (Ql E rfl (Vt _)) rfl ?_
   clear E a; intro a E
   refine Qf E rfl rfl ?_
   refine S_v E rfl (Jj (off := 3) (part := [.int .i64 x_3.2.2.2.1, .int .i64 x_3.2.2.2.2.1, w_5]) E rfl (Tryz.isAgg27 _) (Tryz.sizeOf27 _) S.imm hb_10 rfl rfl) rfl ?_
   clear E a; intro a E
   refine Qf E rfl rfl ?_
   refine S_x (Qr E S rfl rfl rfl (laws_fair hw_5 (by omega)) (Hp.le.refl _) ?_)
   clear E a S; rintro a _ w M_12 hM_12 rfl S E
   replace h0 := h0.le hM_12
   replace h1 := h1.le JJ hM_12
   replace hu_6 := hu_6.le hM_12
   replace hb_10 := hM_12.2 _ _ hb_10
   refine Qf E rfl rfl ?_
   refine S_v E rfl (Zk E rfl) rfl fun _ E1 => S_v E1 rfl (QQ E1 rfl rfl) rfl fun _ E2 => S_m E2 rfl rfl ?_
   clear E a E1 E2; intro a E
   refine QK (!(decide ((-1099511627776 < x_3.2.2.2.2.1 ∧ x_3.2.2.2.2.1 < 1099511627776) ∧ (x_3.2.2.2.2.2.1).length ≤ 300))) (fun hc_13 => ?_) (fun hc_13 => ?_)
   ·replace E := E.val (t := 21) rfl hc_13
    replace E := E.val (t := 22) rfl hc_13
    replace E := E.val (t := 23) rfl hc_13
    refine Qd E rfl rfl rfl rfl fun a E => ?_
    refine Qd E rfl rfl rfl rfl fun a E => ?_
    refine Qd E rfl rfl rfl rfl fun a E => ?_
    refine Qd E rfl rfl rfl rfl fun a E => ?_
    refine S_v E rfl (QZ E rfl rfl) rfl fun _ E1 => S_m E1 rfl rfl ?_
    clear E a E1; intro a E
    refine Qd E rfl rfl rfl rfl fun a E => ?_
    refine Qd E rfl rfl rfl rfl fun a E => ?_
    refine Qd E rfl rfl rfl rfl fun a E => ?_
    refine Qd E rfl rfl rfl rfl fun a E => ?_
    refine Qd E rfl rfl rfl rfl fun a E => ?_
    refine QE E rfl rfl rfl fun a E => ?_
    refine QE E rfl rfl rfl fun a E => ?_
    refine QE E rfl rfl rfl fun a E => ?_
    refine QE E rfl rfl rfl fun a E => ?_
    refine Qd E rfl rfl rfl rfl fun a E => ?_
    refine Qd E rfl rfl rfl rfl fun a E => ?_
    refine QE E rfl rfl rfl fun a E => ?_
    refine QE E rfl rfl rfl fun a E => ?_
    refine QE E rfl rfl rfl fun a E => ?_
    refine QE E rfl rfl rfl fun a E => ?_
    refine Qd E rfl rfl rfl rfl fun a E => ?_
    refine S_v E rfl (QZ E rfl rfl) rfl fun _ E1 => S_m E1 rfl rfl ?_
    clear E a E1; intro a E
    refine Qd E rfl rfl rfl rfl fun a E => ?_
    refine Qd E rfl rfl rfl rfl fun a E => ?_
    refine Qd E rfl rfl rfl rfl fun a E => ?_
    refine Qd E rfl rfl rfl rfl fun a E => ?_
    refine Qd E rfl rfl rfl rfl fun a E => ?_
    refine QE E rfl rfl rfl fun a E => ?_
    refine QE E rfl rfl rfl fun a E => ?_
    refine QE E rfl rfl rfl fun a E => ?_
    refine QE E rfl rfl rfl fun a E => ?_
    refine Qd E rfl rfl rfl rfl fun a E => ?_
    refine S_v E rfl (QZ E rfl rfl) rfl ?_
    clear E a; intro a E
    refine Qc (T_n ?_)
    refine ZK E rfl rfl ?_
    refine Qb (Qa (S_a E rfl rfl ?_))
    clear E a; intro a E
    refine Qc (T_n (Qe (B_r ?_)))
    refine T_r ?_
    refine T_r ?_
    refine B_r ?_
    refine T_r ?_
    exact Qg E Tryz.results8 rfl ⟨_, rfl, M_12, (hM_1.trans (hM_9.trans hM_12)), (bF (by (intro h9; have h8 := h9.2 _ (List.mem_of_getElem? (by assumption)); unfold ZG at h8; first | (simp_all; done) | (simp_all; omega)))), S⟩
   ·replace E := E.val (t := 21) rfl hc_13
    replace E := E.val (t := 22) rfl hc_13
    replace E := E.val (t := 23) rfl hc_13
    refine Qf E rfl rfl ?_
    refine S_v E rfl (Ql E rfl (YZ _)) rfl ?_
    clear E a; intro a E
    refine Qf E rfl rfl ?_
    refine S_v E rfl (Jj (off := 6) (part := [.int .i64 x_3.2.2.2.2.2.2.1, .int .i64 x_3.2.2.2.2.2.2.2.1]) E rfl (Tryz.isAgg30 _) (Tryz.sizeOf30 _) S.imm hb_10 rfl rfl) rfl ?_
    clear E a; intro a E
    refine Qf E rfl rfl ?_
    refine S_x (Qr E S rfl rfl rfl (laws_just (by omega)) (Hp.le.refl _) ?_)
    clear E a S; rintro a _ w M_14 hM_14 rfl S E
    replace h0 := h0.le hM_14
    replace h1 := h1.le JJ hM_14
    replace hu_6 := hu_6.le hM_14
    replace hb_10 := hM_14.2 _ _ hb_10
    refine Qf E rfl rfl ?_
    refine S_v E rfl (Zk E rfl) rfl fun _ E1 => S_v E1 rfl (QQ E1 rfl rfl) rfl fun _ E2 => S_m E2 rfl rfl ?_
    clear E a E1 E2; intro a E
    refine QK (!(decide (-1099511627776 < x_3.2.2.2.2.2.2.2.1 ∧ x_3.2.2.2.2.2.2.2.1 < 1099511627776))) (fun hc_15 => ?_) (fun hc_15 => ?_)
    ·replace E := E.val (t := 27) rfl hc_15
     replace E := E.val (t := 28) rfl hc_15
     replace E := E.val (t := 29) rfl hc_15
     refine Qd E rfl rfl rfl rfl fun a E => ?_
     refine Qd E rfl rfl rfl rfl fun a E => ?_
     refine Qd E rfl rfl rfl rfl fun a E => ?_
     refine Qd E rfl rfl rfl rfl fun a E => ?_
     refine Qd E rfl rfl rfl rfl fun a E => ?_
     refine QE E rfl rfl rfl fun a E => ?_
     refine QE E rfl rfl rfl fun a E => ?_
     refine QE E rfl rfl rfl fun a E => ?_
     refine QE E rfl rfl rfl fun a E => ?_
     refine Qd E rfl rfl rfl rfl fun a E => ?_
     refine Qd E rfl rfl rfl rfl fun a E => ?_
     refine QE E rfl rfl rfl fun a E => ?_
     refine QE E rfl rfl rfl fun a E => ?_
     refine QE E rfl rfl rfl fun a E => ?_
     refine QE E rfl rfl rfl fun a E => ?_
     refine Qd E rfl rfl rfl rfl fun a E => ?_
     refine S_v E rfl (QZ E rfl rfl) rfl fun _ E1 => S_m E1 rfl rfl ?_
     clear E a E1; intro a E
     refine Qd E rfl rfl rfl rfl fun a E => ?_
     refine Qd E rfl rfl rfl rfl fun a E => ?_
     refine Qd E rfl rfl rfl rfl fun a E => ?_
     refine Qd E rfl rfl rfl rfl fun a E => ?_
     refine Qd E rfl rfl rfl rfl fun a E => ?_
     refine QE E rfl rfl rfl fun a E => ?_
     refine QE E rfl rfl rfl fun a E => ?_
     refine QE E rfl rfl rfl fun a E => ?_
     refine QE E rfl rfl rfl fun a E => ?_
     refine Qd E rfl rfl rfl rfl fun a E => ?_
     refine S_v E rfl (QZ E rfl rfl) rfl ?_
     clear E a; intro a E
     refine Qc (T_n ?_)
     refine ZK E rfl rfl ?_
     refine Qb (Qa (S_a E rfl rfl ?_))
     clear E a; intro a E
     refine Qc (T_n (Qe (B_r ?_)))
     refine T_r ?_
     refine T_r ?_
     refine B_r ?_
     refine T_r ?_
     exact Qg E Tryz.results8 rfl ⟨_, rfl, M_14, (hM_1.trans (hM_9.trans (hM_12.trans hM_14))), (bF (by (intro h9; have h8 := h9.2 _ (List.mem_of_getElem? (by assumption)); unfold ZG at h8; first | (simp_all; done) | (simp_all; omega)))), S⟩
    ·replace E := E.val (t := 27) rfl hc_15
     replace E := E.val (t := 28) rfl hc_15
     replace E := E.val (t := 29) rfl hc_15
     refine Qf E rfl rfl ?_
     refine S_v E rfl (Ql E rfl (VL _)) rfl ?_
     clear E a; intro a E
     refine Qf E rfl rfl ?_
     refine S_v E rfl (Qj E rfl Tryz.isAgg3 S.imm (Qo hb_10 rfl)) rfl ?_
     clear E a; intro a E
     refine Qf E rfl rfl ?_
     refine S_x (Qr E S rfl rfl rfl (YR (by omega) (by omega)) (Hp.le.refl _) ?_)
     clear E a S; rintro a _ w M_16 hM_16 rfl S E
     replace h0 := h0.le hM_16
     replace h1 := h1.le JJ hM_16
     replace hu_6 := hu_6.le hM_16
     replace hb_10 := hM_16.2 _ _ hb_10
     refine Qf E rfl rfl ?_
     refine S_v E rfl (YV E rfl rfl) rfl ?_
     clear E a; intro a E
     refine Qf E rfl rfl ?_
     refine S_m E rfl rfl ?_
     clear E a; intro a E
     refine QK (decide (29 ≤ x_3.1 % 47)) (fun hc_17 => ?_) (fun hc_17 => ?_)
     ·replace E := E.val (t := 33) rfl hc_17
      replace E := E.val (t := 34) rfl hc_17
      replace hc_17 := of_decide_eq_true hc_17
      refine Qf E rfl rfl ?_
      refine S_v E rfl (Ql E rfl (VL _)) rfl ?_
      clear E a; intro a E
      refine Qf E rfl rfl ?_
      refine S_v E rfl (Qj E rfl Tryz.isAgg3 S.imm (Qo hb_10 rfl)) rfl ?_
      clear E a; intro a E
      refine Qf E rfl rfl ?_
      refine S_x (Qr E S rfl rfl rfl (YR (by omega) (by omega)) (Hp.le.refl _) ?_)
      clear E a S; rintro a _ w M_18 hM_18 rfl S E
      replace h0 := h0.le hM_18
      replace h1 := h1.le JJ hM_18
      replace hu_6 := hu_6.le hM_18
      replace hb_10 := hM_18.2 _ _ hb_10
      refine Qf E rfl rfl ?_
      refine S_v E rfl (ZV E rfl rfl) rfl ?_
      clear E a; intro a E
      refine Qf E rfl rfl ?_
      refine S_v E rfl (QZ E rfl rfl) rfl ?_
      clear E a; intro a E
      refine Qf E rfl rfl ?_
      refine S_m E rfl rfl ?_
      clear E a; intro a E
      refine QK (decide (x_3.1 % 47 ≤ 32)) (fun hc_19 => ?_) (fun hc_19 => ?_)
      ·replace E := E.val (t := 38) rfl hc_19
       replace E := E.val (t := 39) rfl hc_19
       replace E := E.val (t := 40) rfl hc_19
       replace hc_19 := of_decide_eq_true hc_19
       refine Qf E rfl rfl ?_
       refine S_v E rfl (Ql E rfl (Jl _)) rfl ?_
       clear E a; intro a E
       refine Qf E rfl rfl ?_
       refine S_v E rfl (Qj E rfl Tryz.isAgg22 S.imm (Qo hb_10 rfl)) rfl ?_
       clear E a; intro a E
       refine Qf E rfl rfl ?_
       refine S_v E rfl (Qp E rfl T22 hu_6.len) rfl ?_
       clear E a; intro a E
       refine Qf E rfl rfl ?_
       refine S_v E rfl (Qv E rfl rfl) rfl ?_
       clear E a; intro a E
       refine Qf E rfl rfl ?_
       refine S_v E rfl (QZ E rfl rfl) rfl fun _ E1 => S_v E1 rfl (QQ E1 rfl rfl) rfl fun _ E2 => S_m E2 rfl rfl ?_
       clear E a E1 E2; intro a E
       refine QK (decide ((((x_3.2.2.2.2.2.2.2.2).length : Nat) : Int) = 0)) (fun hc_20 => ?_) (fun hc_20 => ?_)
       ·replace E := E.val (t := 44) rfl hc_20
        replace E := E.val (t := 45) rfl hc_20
        replace E := E.val (t := 46) rfl hc_20
        replace E := E.val (t := 47) rfl hc_20
        replace hc_20 := of_decide_eq_true hc_20
        refine Qd E rfl rfl rfl rfl fun a E => ?_
        refine Qd E rfl rfl rfl rfl fun a E => ?_
        refine Qd E rfl rfl rfl rfl fun a E => ?_
        refine Qd E rfl rfl rfl rfl fun a E => ?_
        refine Qd E rfl rfl rfl rfl fun a E => ?_
        refine QE E rfl rfl rfl fun a E => ?_
        refine QE E rfl rfl rfl fun a E => ?_
        refine QE E rfl rfl rfl fun a E => ?_
        refine QE E rfl rfl rfl fun a E => ?_
        refine Qd E rfl rfl rfl rfl fun a E => ?_
        refine S_v E rfl (QZ E rfl rfl) rfl ?_
        clear E a; intro a E
        refine Qc (T_n ?_)
        refine ZK E rfl rfl ?_
        refine Qb (Qa (S_a E rfl rfl ?_))
        clear E a; intro a E
        refine Qc (T_n (Qe (B_r ?_)))
        refine T_r ?_
        refine T_r ?_
        refine B_r ?_
        refine T_r ?_
        exact Qg E Tryz.results8 rfl ⟨_, rfl, M_18, (hM_1.trans (hM_9.trans (hM_12.trans (hM_14.trans (hM_16.trans hM_18))))), (bF (by (intro h9; have h8 := h9.2 _ (List.mem_of_getElem? (by assumption)); unfold ZG at h8; first | (simp_all; done) | (simp_all; omega)))), S⟩
       ·replace E := E.val (t := 44) rfl hc_20
        replace E := E.val (t := 45) rfl hc_20
        replace E := E.val (t := 46) rfl hc_20
        replace E := E.val (t := 47) rfl hc_20
        replace hc_20 := of_decide_eq_false hc_20
        refine Qf E rfl rfl ?_
        refine S_v E rfl (Ql E rfl (VL _)) rfl ?_
        clear E a; intro a E
        refine Qf E rfl rfl ?_
        refine S_v E rfl (Qj E rfl Tryz.isAgg3 S.imm (Qo hb_10 rfl)) rfl ?_
        clear E a; intro a E
        refine Qf E rfl rfl ?_
        refine S_x (Qr E S rfl rfl rfl (YR (by omega) (by omega)) (Hp.le.refl _) ?_)
        clear E a S; rintro a _ w M_21 hM_21 rfl S E
        replace h0 := h0.le hM_21
        replace h1 := h1.le JJ hM_21
        replace hu_6 := hu_6.le hM_21
        replace hb_10 := hM_21.2 _ _ hb_10
        refine Qf E rfl rfl ?_
        refine S_v E rfl (Qv E rfl rfl) rfl ?_
        clear E a; intro a E
        refine Qf E rfl rfl ?_
        refine S_m E rfl rfl ?_
        clear E a; intro a E
        refine QK (decide (x_3.1 % 47 = 46)) (fun hc_22 => ?_) (fun hc_22 => ?_)
        ·replace E := E.val (t := 51) rfl hc_22
         replace E := E.val (t := 52) rfl hc_22
         replace hc_22 := of_decide_eq_true hc_22
         refine Qf E rfl rfl ?_
         refine S_v E rfl (Ql E rfl (Jl _)) rfl ?_
         clear E a; intro a E
         refine Qf E rfl rfl ?_
         refine S_v E rfl (Qj E rfl Tryz.isAgg22 S.imm (Qo hb_10 rfl)) rfl ?_
         clear E a; intro a E
         refine Qf E rfl rfl ?_
         refine S_v E rfl (Qp E rfl T22 hu_6.len) rfl ?_
         clear E a; intro a E
         refine Qf E rfl rfl ?_
         refine S_v E rfl (Qv E rfl rfl) rfl ?_
         clear E a; intro a E
         refine Qf E rfl rfl ?_
         refine S_v E rfl (QZ E rfl rfl) rfl fun _ E1 => S_v E1 rfl (QQ E1 rfl rfl) rfl ?_
         clear E a E1; intro a E
         refine Qc (T_n ?_)
         refine Qn E rfl (fun hc_23 => ?_) (fun hc_23 => ?_)
         ·refine Qb (Qa (S_a E rfl rfl ?_))
          clear E a; intro a E
          refine Qc (T_n (Qe (B_r ?_)))
          refine T_r ?_
          refine T_r ?_
          refine B_r ?_
          refine T_r ?_
          exact Qg E Tryz.results8 rfl ⟨_, rfl, M_21, (hM_1.trans (hM_9.trans (hM_12.trans (hM_14.trans (hM_16.trans (hM_18.trans hM_21)))))), (bF (by (intro h9; have h8 := h9.2 _ (List.mem_of_getElem? (by assumption)); unfold ZG at h8; first | (simp_all; done) | (simp_all; omega)))), S⟩
         ·refine Qh (B_n (T_n (Qa (S_v E rfl (Qq (m := ((k + 1 : Nat) : Int)) E rfl rfl (by omega) (by omega)) rfl fun _ E1 => S_m E1 rfl rfl ?_))))
          clear E a E1; intro a E
          refine Qc (T_n ?_)
          exact ⟨k + 1, ⟨M_21, (hM_1.trans (hM_9.trans (hM_12.trans (hM_14.trans (hM_16.trans (hM_18.trans hM_21)))))), S, E.keep ⟨rfl, rfl, rfl, rfl, rfl, trivial⟩, by (omega), (by refine tkA (by assumption) (by assumption) ?_; unfold ZG; first | (simp_all; done) | (simp_all; omega))⟩, by omega⟩
        ·replace E := E.val (t := 51) rfl hc_22
         replace E := E.val (t := 52) rfl hc_22
         replace hc_22 := of_decide_eq_false hc_22
         refine Qd E rfl rfl rfl rfl fun a E => ?_
         refine Qd E rfl rfl rfl rfl fun a E => ?_
         refine Qd E rfl rfl rfl rfl fun a E => ?_
         refine Qd E rfl rfl rfl rfl fun a E => ?_
         refine Qf E rfl rfl ?_
         refine S_v E rfl (QQ E rfl rfl) rfl fun _ E1 => S_v E1 rfl (QQ E1 rfl rfl) rfl ?_
         clear E a E1; intro a E
         refine Qc (T_n ?_)
         refine Ja E rfl rfl ?_
         refine Qh (B_n (T_n (Qa (S_v E rfl (Qq (m := ((k + 1 : Nat) : Int)) E rfl rfl (by omega) (by omega)) rfl fun _ E1 => S_m E1 rfl rfl ?_))))
         clear E a E1; intro a E
         refine Qc (T_n ?_)
         exact ⟨k + 1, ⟨M_21, (hM_1.trans (hM_9.trans (hM_12.trans (hM_14.trans (hM_16.trans (hM_18.trans hM_21)))))), S, E.keep ⟨rfl, rfl, rfl, rfl, rfl, trivial⟩, by (omega), (by refine tkA (by assumption) (by assumption) ?_; unfold ZG; first | (simp_all; done) | (simp_all; omega))⟩, by omega⟩
      ·replace E := E.val (t := 38) rfl hc_19
       replace E := E.val (t := 39) rfl hc_19
       replace E := E.val (t := 40) rfl hc_19
       replace hc_19 := of_decide_eq_false hc_19
       refine Qd E rfl rfl rfl rfl fun a E => ?_
       refine Qd E rfl rfl rfl rfl fun a E => ?_
       refine Qd E rfl rfl rfl rfl fun a E => ?_
       refine Qd E rfl rfl rfl rfl fun a E => ?_
       refine Qf E rfl rfl ?_
       refine S_v E rfl (QQ E rfl rfl) rfl fun _ E1 => S_v E1 rfl (QQ E1 rfl rfl) rfl fun _ E2 => S_m E2 rfl rfl ?_
       clear E a E1 E2; intro a E
       refine Qf E rfl rfl ?_
       refine S_v E rfl (Ql E rfl (VL _)) rfl ?_
       clear E a; intro a E
       refine Qf E rfl rfl ?_
       refine S_v E rfl (Qj E rfl Tryz.isAgg3 S.imm (Qo hb_10 rfl)) rfl ?_
       clear E a; intro a E
       refine Qf E rfl rfl ?_
       refine S_x (Qr E S rfl rfl rfl (YR (by omega) (by omega)) (Hp.le.refl _) ?_)
       clear E a S; rintro a _ w M_24 hM_24 rfl S E
       replace h0 := h0.le hM_24
       replace h1 := h1.le JJ hM_24
       replace hu_6 := hu_6.le hM_24
       replace hb_10 := hM_24.2 _ _ hb_10
       refine Qf E rfl rfl ?_
       refine S_v E rfl (Qv E rfl rfl) rfl ?_
       clear E a; intro a E
       refine Qf E rfl rfl ?_
       refine S_m E rfl rfl ?_
       clear E a; intro a E
       refine QK (decide (x_3.1 % 47 = 46)) (fun hc_25 => ?_) (fun hc_25 => ?_)
       ·replace E := E.val (t := 51) rfl hc_25
        replace E := E.val (t := 52) rfl hc_25
        replace hc_25 := of_decide_eq_true hc_25
        refine Qf E rfl rfl ?_
        refine S_v E rfl (Ql E rfl (Jl _)) rfl ?_
        clear E a; intro a E
        refine Qf E rfl rfl ?_
        refine S_v E rfl (Qj E rfl Tryz.isAgg22 S.imm (Qo hb_10 rfl)) rfl ?_
        clear E a; intro a E
        refine Qf E rfl rfl ?_
        refine S_v E rfl (Qp E rfl T22 hu_6.len) rfl ?_
        clear E a; intro a E
        refine Qf E rfl rfl ?_
        refine S_v E rfl (Qv E rfl rfl) rfl ?_
        clear E a; intro a E
        refine Qf E rfl rfl ?_
        refine S_v E rfl (QZ E rfl rfl) rfl fun _ E1 => S_v E1 rfl (QQ E1 rfl rfl) rfl ?_
        clear E a E1; intro a E
        refine Qc (T_n ?_)
        refine Qn E rfl (fun hc_26 => ?_) (fun hc_26 => ?_)
        ·refine Qb (Qa (S_a E rfl rfl ?_))
         clear E a; intro a E
         refine Qc (T_n (Qe (B_r ?_)))
         refine T_r ?_
         refine T_r ?_
         refine B_r ?_
         refine T_r ?_
         exact Qg E Tryz.results8 rfl ⟨_, rfl, M_24, (hM_1.trans (hM_9.trans (hM_12.trans (hM_14.trans (hM_16.trans (hM_18.trans hM_24)))))), (bF (by (intro h9; have h8 := h9.2 _ (List.mem_of_getElem? (by assumption)); unfold ZG at h8; first | (simp_all; done) | (simp_all; omega)))), S⟩
        ·refine Qh (B_n (T_n (Qa (S_v E rfl (Qq (m := ((k + 1 : Nat) : Int)) E rfl rfl (by omega) (by omega)) rfl fun _ E1 => S_m E1 rfl rfl ?_))))
         clear E a E1; intro a E
         refine Qc (T_n ?_)
         exact ⟨k + 1, ⟨M_24, (hM_1.trans (hM_9.trans (hM_12.trans (hM_14.trans (hM_16.trans (hM_18.trans hM_24)))))), S, E.keep ⟨rfl, rfl, rfl, rfl, rfl, trivial⟩, by (omega), (by refine tkA (by assumption) (by assumption) ?_; unfold ZG; first | (simp_all; done) | (simp_all; omega))⟩, by omega⟩
       ·replace E := E.val (t := 51) rfl hc_25
        replace E := E.val (t := 52) rfl hc_25
        replace hc_25 := of_decide_eq_false hc_25
        refine Qd E rfl rfl rfl rfl fun a E => ?_
        refine Qd E rfl rfl rfl rfl fun a E => ?_
        refine Qd E rfl rfl rfl rfl fun a E => ?_
        refine Qd E rfl rfl rfl rfl fun a E => ?_
        refine Qf E rfl rfl ?_
        refine S_v E rfl (QQ E rfl rfl) rfl fun _ E1 => S_v E1 rfl (QQ E1 rfl rfl) rfl ?_
        clear E a E1; intro a E
        refine Qc (T_n ?_)
        refine Ja E rfl rfl ?_
        refine Qh (B_n (T_n (Qa (S_v E rfl (Qq (m := ((k + 1 : Nat) : Int)) E rfl rfl (by omega) (by omega)) rfl fun _ E1 => S_m E1 rfl rfl ?_))))
        clear E a E1; intro a E
        refine Qc (T_n ?_)
        exact ⟨k + 1, ⟨M_24, (hM_1.trans (hM_9.trans (hM_12.trans (hM_14.trans (hM_16.trans (hM_18.trans hM_24)))))), S, E.keep ⟨rfl, rfl, rfl, rfl, rfl, trivial⟩, by (omega), (by refine tkA (by assumption) (by assumption) ?_; unfold ZG; first | (simp_all; done) | (simp_all; omega))⟩, by omega⟩
     ·replace E := E.val (t := 33) rfl hc_17
      replace E := E.val (t := 34) rfl hc_17
      replace hc_17 := of_decide_eq_false hc_17
      refine Qd E rfl rfl rfl rfl fun a E => ?_
      refine Qd E rfl rfl rfl rfl fun a E => ?_
      refine Qd E rfl rfl rfl rfl fun a E => ?_
      refine Qd E rfl rfl rfl rfl fun a E => ?_
      refine Qf E rfl rfl ?_
      refine S_v E rfl (QQ E rfl rfl) rfl ?_
      clear E a; intro a E
      refine Qf E rfl rfl ?_
      refine S_m E rfl rfl ?_
      clear E a; intro a E
      refine Qd E rfl rfl rfl rfl fun a E => ?_
      refine Qd E rfl rfl rfl rfl fun a E => ?_
      refine Qd E rfl rfl rfl rfl fun a E => ?_
      refine Qd E rfl rfl rfl rfl fun a E => ?_
      refine Qf E rfl rfl ?_
      refine S_v E rfl (QQ E rfl rfl) rfl fun _ E1 => S_v E1 rfl (QQ E1 rfl rfl) rfl fun _ E2 => S_m E2 rfl rfl ?_
      clear E a E1 E2; intro a E
      refine Qf E rfl rfl ?_
      refine S_v E rfl (Ql E rfl (VL _)) rfl ?_
      clear E a; intro a E
      refine Qf E rfl rfl ?_
      refine S_v E rfl (Qj E rfl Tryz.isAgg3 S.imm (Qo hb_10 rfl)) rfl ?_
      clear E a; intro a E
      refine Qf E rfl rfl ?_
      refine S_x (Qr E S rfl rfl rfl (YR (by omega) (by omega)) (Hp.le.refl _) ?_)
      clear E a S; rintro a _ w M_27 hM_27 rfl S E
      replace h0 := h0.le hM_27
      replace h1 := h1.le JJ hM_27
      replace hu_6 := hu_6.le hM_27
      replace hb_10 := hM_27.2 _ _ hb_10
      refine Qf E rfl rfl ?_
      refine S_v E rfl (Qv E rfl rfl) rfl ?_
      clear E a; intro a E
      refine Qf E rfl rfl ?_
      refine S_m E rfl rfl ?_
      clear E a; intro a E
      refine QK (decide (x_3.1 % 47 = 46)) (fun hc_28 => ?_) (fun hc_28 => ?_)
      ·replace E := E.val (t := 51) rfl hc_28
       replace E := E.val (t := 52) rfl hc_28
       replace hc_28 := of_decide_eq_true hc_28
       refine Qf E rfl rfl ?_
       refine S_v E rfl (Ql E rfl (Jl _)) rfl ?_
       clear E a; intro a E
       refine Qf E rfl rfl ?_
       refine S_v E rfl (Qj E rfl Tryz.isAgg22 S.imm (Qo hb_10 rfl)) rfl ?_
       clear E a; intro a E
       refine Qf E rfl rfl ?_
       refine S_v E rfl (Qp E rfl T22 hu_6.len) rfl ?_
       clear E a; intro a E
       refine Qf E rfl rfl ?_
       refine S_v E rfl (Qv E rfl rfl) rfl ?_
       clear E a; intro a E
       refine Qf E rfl rfl ?_
       refine S_v E rfl (QZ E rfl rfl) rfl fun _ E1 => S_v E1 rfl (QQ E1 rfl rfl) rfl ?_
       clear E a E1; intro a E
       refine Qc (T_n ?_)
       refine Qn E rfl (fun hc_29 => ?_) (fun hc_29 => ?_)
       ·refine Qb (Qa (S_a E rfl rfl ?_))
        clear E a; intro a E
        refine Qc (T_n (Qe (B_r ?_)))
        refine T_r ?_
        refine T_r ?_
        refine B_r ?_
        refine T_r ?_
        exact Qg E Tryz.results8 rfl ⟨_, rfl, M_27, (hM_1.trans (hM_9.trans (hM_12.trans (hM_14.trans (hM_16.trans hM_27))))), (bF (by (intro h9; have h8 := h9.2 _ (List.mem_of_getElem? (by assumption)); unfold ZG at h8; first | (simp_all; done) | (simp_all; omega)))), S⟩
       ·refine Qh (B_n (T_n (Qa (S_v E rfl (Qq (m := ((k + 1 : Nat) : Int)) E rfl rfl (by omega) (by omega)) rfl fun _ E1 => S_m E1 rfl rfl ?_))))
        clear E a E1; intro a E
        refine Qc (T_n ?_)
        exact ⟨k + 1, ⟨M_27, (hM_1.trans (hM_9.trans (hM_12.trans (hM_14.trans (hM_16.trans hM_27))))), S, E.keep ⟨rfl, rfl, rfl, rfl, rfl, trivial⟩, by (omega), (by refine tkA (by assumption) (by assumption) ?_; unfold ZG; first | (simp_all; done) | (simp_all; omega))⟩, by omega⟩
      ·replace E := E.val (t := 51) rfl hc_28
       replace E := E.val (t := 52) rfl hc_28
       replace hc_28 := of_decide_eq_false hc_28
       refine Qd E rfl rfl rfl rfl fun a E => ?_
       refine Qd E rfl rfl rfl rfl fun a E => ?_
       refine Qd E rfl rfl rfl rfl fun a E => ?_
       refine Qd E rfl rfl rfl rfl fun a E => ?_
       refine Qf E rfl rfl ?_
       refine S_v E rfl (QQ E rfl rfl) rfl fun _ E1 => S_v E1 rfl (QQ E1 rfl rfl) rfl ?_
       clear E a E1; intro a E
       refine Qc (T_n ?_)
       refine Ja E rfl rfl ?_
       refine Qh (B_n (T_n (Qa (S_v E rfl (Qq (m := ((k + 1 : Nat) : Int)) E rfl rfl (by omega) (by omega)) rfl fun _ E1 => S_m E1 rfl rfl ?_))))
       clear E a E1; intro a E
       refine Qc (T_n ?_)
       exact ⟨k + 1, ⟨M_27, (hM_1.trans (hM_9.trans (hM_12.trans (hM_14.trans (hM_16.trans hM_27))))), S, E.keep ⟨rfl, rfl, rfl, rfl, rfl, trivial⟩, by (omega), (by refine tkA (by assumption) (by assumption) ?_; unfold ZG; first | (simp_all; done) | (simp_all; omega))⟩, by omega⟩
 ·refine Qt (T_x (T_x (B_x (T_n (Qb (Qa (S_m E rfl rfl fun _ E1 => S_v E1 rfl (Qp E1 rfl T22 h0.len) rfl fun _ E2 => S_v E2 rfl (ZV E2 rfl rfl) rfl fun _ E3 => S_m E3 rfl rfl ?_)))))))
  clear E a E1 E2 E3; intro a E
  refine QK (decide ((((l0).length : Nat) : Int) ≤ 200)) (fun hc_30 => ?_) (fun hc_30 => ?_)
  ·replace E := E.val (t := 62) rfl hc_30
   replace E := E.val (t := 63) rfl hc_30
   replace hc_30 := of_decide_eq_true hc_30
   refine Qf E rfl rfl ?_
   refine S_m E rfl rfl ?_
   clear E a; intro a E
   refine Qf E rfl rfl ?_
   refine S_v E rfl (Qp E rfl T23 h1.len) rfl ?_
   clear E a; intro a E
   refine Qf E rfl rfl ?_
   refine S_v E rfl (ZV E rfl rfl) rfl fun _ E1 => S_v E1 rfl (QZ E1 rfl rfl) rfl fun _ E2 => S_a E2 rfl rfl ?_
   clear E a E1 E2; intro a E
   refine Qc (T_n (Qe ?_))
   exact Qg E Tryz.results8 rfl ⟨_, rfl, M_1, hM_1, (congrArg Value.bool (by ((refine decide_eq_decide.2 ⟨fun h => ⟨by omega, tkE (by assumption) (by omega)⟩, fun h => by omega⟩)))), S⟩
  ·replace E := E.val (t := 62) rfl hc_30
   replace E := E.val (t := 63) rfl hc_30
   replace hc_30 := of_decide_eq_false hc_30
   refine Qd E rfl rfl rfl rfl fun a E => ?_
   refine Qd E rfl rfl rfl rfl fun a E => ?_
   refine Qd E rfl rfl rfl rfl fun a E => ?_
   refine S_v E rfl (QQ E rfl rfl) rfl fun _ E1 => S_a E1 rfl rfl ?_
   clear E a E1; intro a E
   refine Qc (T_n (Qe ?_))
   exact Qg E Tryz.results8 rfl ⟨_, rfl, M_1, hM_1, (bF (by ((intro h9; omega)))), S⟩
theorem JN {M : Hp} {x0 x1 : Int} (hn : 0 < x1) (g1 : -1099511627776 < x1 ∧ x1 < 1099511627776) :
  Pu Tryz.prog (.func (.func 19) #[] #[]) M [.int .i64 x0, .int .i64 x1] (fun r M' => r = .int .i64 (((x0 % x1).toNat : Nat) : Int)) := by
 refine Qk Tryz.func19 rfl Tryz.ntmps19 rfl Tryz.call19 ?_
 intro a w M1 H hM1 S E
 have hn0 : x1 ≠ 0 := by omega
 have ht := VO x0 x1 hn0
 have ht2 := VO x0 (-x1) (by omega)
 have he : x0 % (-x1) = x0 % x1 := Int.emod_neg ..
 refine Qb (Qa (S_a E rfl rfl fun _ E1 => Qc (T_n (Qb (Qb (Qa (S_m E1 rfl rfl fun _ E2 => S_v E2 rfl (QG E2 rfl rfl) rfl ?_)))))))
 clear E a E1 E2; intro a E
 refine Qc (T_n ?_)
 refine Qn E rfl (fun hc_1 => ?_) (fun hc_1 => ?_)
 ·refine Qa (S_m E rfl rfl fun _ E1 => S_v E1 rfl (R_negx (m := -x1) E1 rfl rfl (by omega)) rfl fun _ E2 => S_a E2 rfl rfl fun _ E3 => Qc (T_n (Qb (Qa (S_m E3 rfl rfl fun _ E4 => S_m E4 rfl rfl fun _ E5 => S_v E5 rfl (UH E5 rfl rfl (by omega)) rfl ?_)))))
  clear E a E1 E2 E3 E4 E5; intro a E
  refine S_a E rfl rfl fun _ E1 => Qc (T_n (Qb (Qb (Qa (S_m E1 rfl rfl fun _ E2 => S_v E2 rfl (QG E2 rfl rfl) rfl ?_)))))
  clear E a E1 E2; intro a E
  refine Qc (T_n ?_)
  refine Qn E rfl (fun hc_2 => ?_) (fun hc_2 => ?_)
  ·refine Qa (S_m E rfl rfl fun _ E1 => S_m E1 rfl rfl fun _ E2 => S_v E2 rfl (Qq (m := (Int.tmod x0 (-x1)) + (-x1)) E2 rfl rfl (by omega) (by omega)) rfl fun _ E3 => S_a E3 rfl rfl fun _ E4 => Qc (T_n (Qb (Qa (S_m E4 rfl rfl fun _ E5 => S_a E5 rfl rfl ?_)))))
   clear E a E1 E2 E3 E4 E5; intro a E
   refine Qc (T_n (Qe ?_))
   exact Qg E Tryz.results19 rfl ⟨_, rfl, M1, (Hp.le.refl _), (congrArg (Value.int .i64) (by omega)), S⟩
  ·refine Qh (T_n (Qb (Qa (S_m E rfl rfl fun _ E1 => S_a E1 rfl rfl ?_))))
   clear E a E1; intro a E
   refine Qc (T_n (Qe ?_))
   exact Qg E Tryz.results19 rfl ⟨_, rfl, M1, (Hp.le.refl _), (congrArg (Value.int .i64) (by omega)), S⟩
 ·refine Qh (T_n (Qb (Qa (S_m E rfl rfl fun _ E1 => S_m E1 rfl rfl fun _ E2 => S_v E2 rfl (UH E2 rfl rfl (by omega)) rfl fun _ E3 => S_a E3 rfl rfl fun _ E4 => Qc (T_n (Qb (Qb (Qa (S_m E4 rfl rfl fun _ E5 => S_v E5 rfl (QG E5 rfl rfl) rfl ?_)))))))))
  clear E a E1 E2 E3 E4 E5; intro a E
  refine Qc (T_n ?_)
  refine Qn E rfl (fun hc_3 => ?_) (fun hc_3 => ?_)
  ·refine Qa (S_m E rfl rfl fun _ E1 => S_m E1 rfl rfl fun _ E2 => S_v E2 rfl (Qq (m := (Int.tmod x0 x1) + x1) E2 rfl rfl (by omega) (by omega)) rfl fun _ E3 => S_a E3 rfl rfl fun _ E4 => Qc (T_n (Qb (Qa (S_m E4 rfl rfl fun _ E5 => S_a E5 rfl rfl ?_)))))
   clear E a E1 E2 E3 E4 E5; intro a E
   refine Qc (T_n (Qe ?_))
   exact Qg E Tryz.results19 rfl ⟨_, rfl, M1, (Hp.le.refl _), (congrArg (Value.int .i64) (by omega)), S⟩
  ·refine Qh (T_n (Qb (Qa (S_m E rfl rfl fun _ E1 => S_a E1 rfl rfl ?_))))
   clear E a E1; intro a E
   refine Qc (T_n (Qe ?_))
   exact Qg E Tryz.results19 rfl ⟨_, rfl, M1, (Hp.le.refl _), (congrArg (Value.int .i64) (by omega)), S⟩
theorem zc {M : Hp} {x0 x1 : Int} (hn : x1 ≠ 0) (g0 : -9223372036854775808 ≤ x0 ∧ x0 ≤ 9223372036854775807) (g1 : -9223372036854775808 ≤ x1 ∧ x1 ≤ 9223372036854775807) :
  Pu Tryz.prog (.func (.func 232) #[] #[]) M [.int .i64 x0, .int .i64 x1] (fun r M' => r = .int .i64 (x0 % x1)) := by
 refine Qk Tryz.func232 rfl Tryz.ntmps232 rfl Tryz.call232 ?_
 intro a w M1 H hM1 S E
 refine Qb (Qa (S_a E rfl rfl fun _ E1 => Qc (T_n (Qb (Qa (S_m E1 rfl rfl fun _ E2 => S_v E2 rfl (Zf (m := x1 % 18446744073709551616) E2 rfl Tryz.underlying3 Tryz.underlying149 (by rw [Jh])) rfl fun _ E3 => S_a E3 rfl rfl fun _ E4 => Qc (T_n (Qb (Qb (Qa (S_m E4 rfl rfl fun _ E5 => S_v E5 rfl (QG E5 rfl rfl) rfl ?_)))))))))))
 clear E a E1 E2 E3 E4 E5; intro a E
 refine Qc (T_n ?_)
 refine Qn E rfl (fun hc_1 => ?_) (fun hc_1 => ?_)
 ·refine Qa (S_m E rfl rfl fun _ E1 => S_v E1 rfl (R_negm (m := -x1) E1 rfl (by (rw [Jh]; omega))) rfl fun _ E2 => S_a E2 rfl rfl fun _ E3 => Qc (T_n (Qb (Qb (Qa (S_m E3 rfl rfl fun _ E4 => S_v E4 rfl (YV E4 rfl rfl) rfl ?_))))))
  clear E a E1 E2 E3 E4; intro a E
  refine Qc (T_n ?_)
  refine Qn E rfl (fun hc_2 => ?_) (fun hc_2 => ?_)
  ·refine Qb (Qa (S_m E rfl rfl fun _ E1 => S_v E1 rfl (Zf (m := x0) E1 rfl Tryz.underlying3 Tryz.underlying149 (by (rw [Jh]; omega))) rfl fun _ E2 => S_m E2 rfl rfl ?_))
   clear E a E1 E2; intro a E
   have hr_3 := qL (p := x0) (q := -x1) (by omega) (by omega)
   refine S_v E rfl (UH E rfl rfl (by omega)) rfl fun _ E1 => S_v E1 rfl (Yl E1 rfl Tryz.underlying149 Tryz.underlying3 (by omega)) rfl fun _ E2 => S_a E2 rfl rfl ?_
   clear E a E1 E2; intro a E
   refine Qc (T_n (Qe ?_))
   refine T_r ?_
   exact Qg E Tryz.results232 rfl ⟨_, rfl, M1, (Hp.le.refl _), (congrArg (Value.int .i64) (by (clear E S; first | (have en : x1 < 0 := (by omega); have e3 : x0 % (-x1) = x0 % x1 := Int.emod_neg ..; have a1 := qy x0 (-x1) (by omega); omega) | (have e : x1 % 18446744073709551616 = x1 := (by omega); simp only [e] at *; have a1 := qy x0 x1 (by omega); omega)))), S⟩
  ·refine Qh (T_n (Qb (Qa (S_m E rfl rfl fun _ E1 => S_v E1 rfl (Zf (m := x0 % 18446744073709551616) E1 rfl Tryz.underlying3 Tryz.underlying149 (by rw [Jh])) rfl fun _ E2 => S_v E2 rfl (R_negm (m := -x0) E2 rfl (by (rw [Jh]; omega))) rfl fun _ E3 => S_m E3 rfl rfl ?_))))
   clear E a E1 E2 E3; intro a E
   have hr_4 := qL (p := -x0) (q := -x1) (by omega) (by omega)
   refine S_v E rfl (UH E rfl rfl (by omega)) rfl fun _ E1 => S_a E1 rfl rfl fun _ E2 => Qc (T_n (Qb (Qb (Qa (S_m E2 rfl rfl fun _ E3 => S_v E3 rfl (JT E3 rfl rfl) rfl ?_)))))
   clear E a E1 E2 E3; intro a E
   refine Qc (T_n ?_)
   refine Qn E rfl (fun hc_5 => ?_) (fun hc_5 => ?_)
   ·refine Qa (S_m E rfl rfl fun _ E1 => S_m E1 rfl rfl fun _ E2 => S_v E2 rfl (jb (m := (-x1) - (Int.tmod (-x0) (-x1))) E2 rfl rfl (by (rw [Jh]; omega))) rfl fun _ E3 => S_a E3 rfl rfl fun _ E4 => Qc (T_n (Qb (Qa (S_m E4 rfl rfl fun _ E5 => S_v E5 rfl (Yl E5 rfl Tryz.underlying149 Tryz.underlying3 (by omega)) rfl ?_)))))
    clear E a E1 E2 E3 E4 E5; intro a E
    refine S_a E rfl rfl ?_
    clear E a; intro a E
    refine Qc (T_n (Qe ?_))
    exact Qg E Tryz.results232 rfl ⟨_, rfl, M1, (Hp.le.refl _), (congrArg (Value.int .i64) (by (clear E S; first | (have en : x1 < 0 := (by omega); have e3 : x0 % (-x1) = x0 % x1 := Int.emod_neg ..; have a1 := qy x0 (-x1) (by omega); omega) | (have e : x1 % 18446744073709551616 = x1 := (by omega); simp only [e] at *; have a1 := qy x0 x1 (by omega); omega)))), S⟩
   ·refine Qh (T_n (Qb (Qa (S_m E rfl rfl fun _ E1 => S_v E1 rfl (Yl E1 rfl Tryz.underlying149 Tryz.underlying3 (by omega)) rfl fun _ E2 => S_a E2 rfl rfl ?_))))
    clear E a E1 E2; intro a E
    refine Qc (T_n (Qe ?_))
    exact Qg E Tryz.results232 rfl ⟨_, rfl, M1, (Hp.le.refl _), (congrArg (Value.int .i64) (by (clear E S; first | (have en : x1 < 0 := (by omega); have e3 : x0 % (-x1) = x0 % x1 := Int.emod_neg ..; have a1 := qy x0 (-x1) (by omega); omega) | (have e : x1 % 18446744073709551616 = x1 := (by omega); simp only [e] at *; have a1 := qy x0 x1 (by omega); omega)))), S⟩
 ·refine Qh (T_n (Qb (Qb (Qa (S_m E rfl rfl fun _ E1 => S_v E1 rfl (YV E1 rfl rfl) rfl ?_)))))
  clear E a E1; intro a E
  refine Qc (T_n ?_)
  refine Qn E rfl (fun hc_6 => ?_) (fun hc_6 => ?_)
  ·refine Qb (Qa (S_m E rfl rfl fun _ E1 => S_v E1 rfl (Zf (m := x0) E1 rfl Tryz.underlying3 Tryz.underlying149 (by (rw [Jh]; omega))) rfl fun _ E2 => S_m E2 rfl rfl ?_))
   clear E a E1 E2; intro a E
   have hr_7 := qL (p := x0) (q := x1 % 18446744073709551616) (by omega) (by omega)
   refine S_v E rfl (UH E rfl rfl (by omega)) rfl fun _ E1 => S_v E1 rfl (Yl E1 rfl Tryz.underlying149 Tryz.underlying3 (by omega)) rfl fun _ E2 => S_a E2 rfl rfl ?_
   clear E a E1 E2; intro a E
   refine Qc (T_n (Qe ?_))
   refine T_r ?_
   exact Qg E Tryz.results232 rfl ⟨_, rfl, M1, (Hp.le.refl _), (congrArg (Value.int .i64) (by (clear E S; first | (have en : x1 < 0 := (by omega); have e3 : x0 % (-x1) = x0 % x1 := Int.emod_neg ..; have a1 := qy x0 (-x1) (by omega); omega) | (have e : x1 % 18446744073709551616 = x1 := (by omega); simp only [e] at *; have a1 := qy x0 x1 (by omega); omega)))), S⟩
  ·refine Qh (T_n (Qb (Qa (S_m E rfl rfl fun _ E1 => S_v E1 rfl (Zf (m := x0 % 18446744073709551616) E1 rfl Tryz.underlying3 Tryz.underlying149 (by rw [Jh])) rfl fun _ E2 => S_v E2 rfl (R_negm (m := -x0) E2 rfl (by (rw [Jh]; omega))) rfl fun _ E3 => S_m E3 rfl rfl ?_))))
   clear E a E1 E2 E3; intro a E
   have hr_8 := qL (p := -x0) (q := x1 % 18446744073709551616) (by omega) (by omega)
   refine S_v E rfl (UH E rfl rfl (by omega)) rfl fun _ E1 => S_a E1 rfl rfl fun _ E2 => Qc (T_n (Qb (Qb (Qa (S_m E2 rfl rfl fun _ E3 => S_v E3 rfl (JT E3 rfl rfl) rfl ?_)))))
   clear E a E1 E2 E3; intro a E
   refine Qc (T_n ?_)
   refine Qn E rfl (fun hc_9 => ?_) (fun hc_9 => ?_)
   ·refine Qa (S_m E rfl rfl fun _ E1 => S_m E1 rfl rfl fun _ E2 => S_v E2 rfl (jb (m := (x1 % 18446744073709551616) - (Int.tmod (-x0) (x1 % 18446744073709551616))) E2 rfl rfl (by (rw [Jh]; omega))) rfl fun _ E3 => S_a E3 rfl rfl fun _ E4 => Qc (T_n (Qb (Qa (S_m E4 rfl rfl fun _ E5 => S_v E5 rfl (Yl E5 rfl Tryz.underlying149 Tryz.underlying3 (by omega)) rfl ?_)))))
    clear E a E1 E2 E3 E4 E5; intro a E
    refine S_a E rfl rfl ?_
    clear E a; intro a E
    refine Qc (T_n (Qe ?_))
    exact Qg E Tryz.results232 rfl ⟨_, rfl, M1, (Hp.le.refl _), (congrArg (Value.int .i64) (by (clear E S; first | (have en : x1 < 0 := (by omega); have e3 : x0 % (-x1) = x0 % x1 := Int.emod_neg ..; have a1 := qy x0 (-x1) (by omega); omega) | (have e : x1 % 18446744073709551616 = x1 := (by omega); simp only [e] at *; have a1 := qy x0 x1 (by omega); omega)))), S⟩
   ·refine Qh (T_n (Qb (Qa (S_m E rfl rfl fun _ E1 => S_v E1 rfl (Yl E1 rfl Tryz.underlying149 Tryz.underlying3 (by omega)) rfl fun _ E2 => S_a E2 rfl rfl ?_))))
    clear E a E1 E2; intro a E
    refine Qc (T_n (Qe ?_))
    exact Qg E Tryz.results232 rfl ⟨_, rfl, M1, (Hp.le.refl _), (congrArg (Value.int .i64) (by (clear E S; first | (have en : x1 < 0 := (by omega); have e3 : x0 % (-x1) = x0 % x1 := Int.emod_neg ..; have a1 := qy x0 (-x1) (by omega); omega) | (have e : x1 % 18446744073709551616 = x1 := (by omega); simp only [e] at *; have a1 := qy x0 x1 (by omega); omega)))), S⟩
theorem Ve {M : Hp} {v0 : Value} {l0 : List Int} (h0 : RdI M v0 l0){x1 : Int} :
  Pu Tryz.prog (.func (.func 100) #[] #[]) M [v0, .int .i64 x1] (fun r M' => r = .int .i64 (fiI (eqx x1) l0)) := by
 refine Qk Tryz.func100 rfl Tryz.ntmps100 rfl Tryz.call100 ?_
 intro a w M1 H hM1 S E
 replace h0 := h0.le hM1
 have b0 := h0.bound
 refine Qb (Qa (S_a E rfl rfl fun _ E1 => Qc (T_n (Qb (Qb (Qa (S_m E1 rfl rfl fun _ E2 => S_v E2 rfl (Qp E2 rfl T22 h0.len) rfl fun _ E3 => S_m E3 rfl rfl ?_)))))))
 clear E a E1 E2 E3; intro a E
 refine Qc (T_n (Qi ?_))
 refine Qx (γ := Nat) (fun (k : Nat) a w => ∃ (M_1 : Hp), Hp.le M1 M_1 ∧ St w M_1 (H) ∧ Env a 19 [] [(0, v0), (1, .int .i64 x1), (7, .int .i64 (((l0).length : Nat) : Int)), (8, .int .i64 ((k : Nat) : Int))] ∧ (k ≤ (l0).length) ∧ (∀ y ∈ l0.take k, eqx x1 y = false)) (fun k => ((l0).length) - k) 0 ⟨M1, Hp.le.refl _, S, E.keep ⟨rfl, rfl, rfl, rfl, trivial⟩, by (omega), (by simp)⟩ ?_
 try clear E
 try clear S
 try clear a
 try clear w
 rintro k a w ⟨M_1, hM_1, S, E, hL0_0, hL0_1⟩
 replace h0 := h0.le hM_1
 refine Qb (Qa (S_v E rfl (QG E rfl rfl) rfl ?_))
 clear E a; intro a E
 refine Qc (T_n (Qb ?_))
 refine Qn E rfl (fun hc_2 => ?_) (fun hc_2 => ?_)
 ·refine Qh (T_n (Qb (Qi (Qb (Qa (S_m E rfl rfl fun _ E1 => S_a E1 rfl rfl fun _ E2 => Qc (T_n (Qb (Qa (S_m E2 rfl rfl fun _ E3 => S_m E3 rfl rfl ?_))))))))))
  clear E a E1 E2 E3; intro a E
  obtain ⟨x_3, hx_3⟩ : ∃ x, (l0)[k]? = some x := ⟨_, List.getElem?_eq_getElem (by omega)⟩
  obtain ⟨p_4, hp_4, qp_4⟩ := h0.at hx_3
  refine S_v E rfl (QB E rfl rfl T22 hp_4 rfl) rfl fun _ E1 => S_v E1 rfl (Qj E1 rfl Tryz.isAgg3 S.imm qp_4) rfl fun _ E2 => S_m E2 rfl rfl fun _ E3 => S_v E3 rfl (Qv E3 rfl rfl) rfl ?_
  clear E a E1 E2 E3; intro a E
  refine Qc (T_n ?_)
  refine Qn E rfl (fun hc_5 => ?_) (fun hc_5 => ?_)
  ·refine Qb (Qa (S_m E rfl rfl fun _ E1 => S_a E1 rfl rfl ?_))
   clear E a E1; intro a E
   refine Qc (T_n (Qe (B_r ?_)))
   refine T_r ?_
   refine T_r ?_
   refine B_r ?_
   refine T_r ?_
   exact Qg E Tryz.results100 rfl ⟨_, rfl, M_1, hM_1, (congrArg (Value.int .i64) (by (exact ((fi_yes (f := eqx x1) hL0_1 (by assumption) (by first | exact eqx_yes (by assumption) | exact eqx_yes' (by assumption))).1).symm))), S⟩
  ·refine Qh (B_n (T_n (Qa (S_v E rfl (Qq (m := ((k + 1 : Nat) : Int)) E rfl rfl (by omega) (by omega)) rfl fun _ E1 => S_m E1 rfl rfl ?_))))
   clear E a E1; intro a E
   refine Qc (T_n ?_)
   exact ⟨k + 1, ⟨M_1, hM_1, S, E.keep ⟨rfl, rfl, rfl, rfl, trivial⟩, by (omega), (by exact VP (P := fun y => eqx x1 y = false) hL0_1 (by assumption) (by exact eqx_no (by assumption)))⟩, by omega⟩
 ·refine Qt (T_x (T_x (B_x (T_n (Qb (Qa (S_a E rfl rfl ?_)))))))
  clear E a; intro a E
  refine Qc (T_n (Qe ?_))
  exact Qg E Tryz.results100 rfl ⟨_, rfl, M_1, hM_1, (congrArg (Value.int .i64) (by (exact ((fi_no (f := eqx x1) hL0_1 (by omega)).1).symm))), S⟩
theorem YM {M : Hp} {v0 : Value} {l0 : List Int} (h0 : RdI M v0 l0){x1 : Int} :
  Pu Tryz.prog (.func (.func 102) #[] #[]) M [v0, .int .i64 x1] (fun r M' => r = .bool (decide (x1 ∈ l0))) := by
 refine Qk Tryz.func102 rfl Tryz.ntmps102 rfl Tryz.call102 ?_
 intro a w M1 H hM1 S E
 replace h0 := h0.le hM1
 have b0 := h0.bound
 refine Qb (Qa (S_a E rfl rfl fun _ E1 => Qc (T_n (Qb (Qa (S_m E1 rfl rfl fun _ E2 => S_m E2 rfl rfl ?_))))))
 clear E a E1 E2; intro a E
 refine S_x (Qr E S rfl rfl rfl (Ve h0) (Hp.le.refl _) ?_)
 clear E a S; rintro a _ w M_1 hM_1 rfl S E
 refine S_v E rfl (YV E rfl rfl) rfl fun _ E1 => S_a E1 rfl rfl ?_
 clear E a E1; intro a E
 refine Qc (T_n (Qe ?_))
 exact Qg E Tryz.results102 rfl ⟨_, rfl, M_1, hM_1, (congrArg Value.bool (by (exact fi_mem l0 x1))), S⟩
theorem WK {M : Hp} {pk0 pn0 : Int} {w0 : Value} {pl0 : List Int} (hw0 : RdI M w0 pl0) (gn0 : -9223372036854775808 ≤ pn0 ∧ pn0 ≤ 9223372036854775807){x1 x2 : Int} (gx : -9223372036854775808 ≤ x1 ∧ x1 ≤ 9223372036854775807) :
  PuC Tryz.prog 97 M [.agg #[.int .i64 pk0, .int .i64 pn0, w0], .int .i64 x1, .int .i64 x2] (fun r M' => r = .bool (QF pk0 pn0 pl0 x1 x2)) := by
 refine YJ Tryz.func97 rfl Tryz.ntmps97 rfl ?_
 intro a w M1 H hM1 S E
 replace hw0 := hw0.le hM1
 have bw0 := hw0.bound
 refine Qb (Qa ?_)
 refine S_x (Jc (cs := #[.int .i64 pk0, .int .i64 pn0, w0]) E S rfl rfl rfl ?_)
 clear E a S; rintro a w b_1 E S
 obtain ⟨M_2, hM_2, hb_1, S⟩ := S.freezeB
 replace hw0 := hw0.le hM_2
 refine S_a E rfl rfl fun _ E1 => Qc (T_n (Qb (Qb (Qa (S_v E1 rfl (Ql E1 rfl (FA41_0 _)) rfl fun _ E2 => S_v E2 rfl (Qj E2 rfl Tryz.isAgg3 S.imm (Qo hb_1 rfl)) rfl fun _ E3 => Qc (T_n (Qi (Qb (Qa (S_v E3 rfl (Qv E3 rfl rfl) rfl fun _ E4 => S_a E4 rfl rfl ?_))))))))))
 clear E a E1 E2 E3 E4; intro a E
 refine Qc (T_n ?_)
 refine Qn E rfl (fun hc_3 => ?_) (fun hc_3 => ?_)
 ·refine Qb (Qa (S_m E rfl rfl fun _ E1 => S_v E1 rfl (Ql E1 rfl (ji _)) rfl fun _ E2 => S_v E2 rfl (Qj E2 rfl Tryz.isAgg3 S.imm (Qo hb_1 rfl)) rfl fun _ E3 => S_v E3 rfl (QG E3 rfl rfl) rfl fun _ E4 => S_a E4 rfl rfl ?_))
  clear E a E1 E2 E3 E4; intro a E
  refine Qc (T_n (Qe (B_r ?_)))
  refine T_r ?_
  exact Qg E Tryz.results97 rfl ⟨_, rfl, M_2, hM_2, (congrArg Value.bool (by (clear E S; unfold QF; first | (have e := (Zc (l := pl0) (by assumption)).1; simp_all; done) | (have e : pl0 = [] := List.eq_nil_of_length_eq_zero (by omega); simp_all; done) | (simp_all; done)))), S⟩
 ·refine Qb (Qa (S_v E rfl (Qv E rfl rfl) rfl fun _ E1 => S_a E1 rfl rfl ?_))
  clear E a E1; intro a E
  refine Qc (T_n ?_)
  refine Qn E rfl (fun hc_4 => ?_) (fun hc_4 => ?_)
  ·refine Qb (Qa (S_a E rfl rfl fun _ E1 => Qc (T_n (Qb (Qb (Qa (S_v E1 rfl (Ql E1 rfl (FA41_2 _)) rfl fun _ E2 => S_v E2 rfl (Qj E2 rfl Tryz.isAgg22 S.imm (Qo hb_1 rfl)) rfl fun _ E3 => S_v E3 rfl (Qp E3 rfl T22 hw0.len) rfl fun _ E4 => S_v E4 rfl (JT E4 rfl rfl) rfl ?_)))))))
   clear E a E1 E2 E3 E4; intro a E
   refine Qc (T_n ?_)
   refine Qn E rfl (fun hc_5 => ?_) (fun hc_5 => ?_)
   ·refine Qa (S_v E rfl (Ql E rfl (FA41_2 _)) rfl fun _ E1 => S_v E1 rfl (Qj E1 rfl Tryz.isAgg22 S.imm (Qo hb_1 rfl)) rfl ?_)
    clear E a E1; intro a E
    obtain ⟨x_6, hx_6⟩ : ∃ x, (pl0)[0]? = some x := ⟨_, List.getElem?_eq_getElem (by omega)⟩
    obtain ⟨p_7, hp_7, qp_7⟩ := hw0.at hx_6
    refine S_v E rfl (QB E rfl rfl T22 hp_7 (by omega)) rfl fun _ E1 => S_v E1 rfl (Qj E1 rfl Tryz.isAgg3 S.imm qp_7) rfl fun _ E2 => S_a E2 rfl rfl fun _ E3 => Qc (T_n (Qb (Qa (S_v E3 rfl (Ql E3 rfl (ji _)) rfl fun _ E4 => S_v E4 rfl (Qj E4 rfl Tryz.isAgg3 S.imm (Qo hb_1 rfl)) rfl fun _ E5 => S_v E5 rfl (Yv E5 rfl rfl) rfl ?_))))
    clear E a E1 E2 E3 E4 E5; intro a E
    refine S_m E rfl rfl ?_
    clear E a; intro a E
    refine QK (decide (pn0 ≠ 0)) (fun hc_8 => ?_) (fun hc_8 => ?_)
    ·replace E := E.val (t := 28) rfl hc_8
     replace E := E.val (t := 29) rfl hc_8
     replace hc_8 := of_decide_eq_true hc_8
     refine Qf E rfl rfl ?_
     refine S_m E rfl rfl ?_
     clear E a; intro a E
     refine Qf E rfl rfl ?_
     refine S_v E rfl (Ql E rfl (ji _)) rfl ?_
     clear E a; intro a E
     refine Qf E rfl rfl ?_
     refine S_v E rfl (Qj E rfl Tryz.isAgg3 S.imm (Qo hb_1 rfl)) rfl ?_
     clear E a; intro a E
     refine Qf E rfl rfl ?_
     refine S_x (Qr E S rfl rfl rfl (zc (by omega) (by omega) (by omega)) (Hp.le.refl _) ?_)
     clear E a S; rintro a _ w M_9 hM_9 rfl S E
     replace hw0 := hw0.le hM_9
     replace hb_1 := hM_9.2 _ _ hb_1
     refine Qf E rfl rfl ?_
     refine S_m E rfl rfl ?_
     clear E a; intro a E
     refine Qf E rfl rfl ?_
     refine S_v E rfl (Qv E rfl rfl) rfl fun _ E1 => S_v E1 rfl (QZ E1 rfl rfl) rfl fun _ E2 => S_a E2 rfl rfl ?_
     clear E a E1 E2; intro a E
     refine Qc (T_n (Qe (B_r ?_)))
     refine T_r ?_
     exact Qg E Tryz.results97 rfl ⟨_, rfl, M_9, (hM_2.trans hM_9), (congrArg Value.bool (by (clear E S; unfold QF; first | (have e := (Zc (l := pl0) (by assumption)).1; simp_all; done) | (have e : pl0 = [] := List.eq_nil_of_length_eq_zero (by omega); simp_all; done) | (simp_all; done)))), S⟩
    ·replace E := E.val (t := 28) rfl hc_8
     replace E := E.val (t := 29) rfl hc_8
     replace hc_8 := of_decide_eq_false hc_8
     refine Qd E rfl rfl rfl rfl fun a E => ?_
     refine Qd E rfl rfl rfl rfl fun a E => ?_
     refine Qd E rfl rfl rfl rfl fun a E => ?_
     refine Qd E rfl rfl rfl rfl fun a E => ?_
     refine Qd E rfl rfl rfl rfl fun a E => ?_
     refine Qd E rfl rfl rfl rfl fun a E => ?_
     refine S_v E rfl (QQ E rfl rfl) rfl fun _ E1 => S_a E1 rfl rfl ?_
     clear E a E1; intro a E
     refine Qc (T_n (Qe (B_r ?_)))
     refine T_r ?_
     exact Qg E Tryz.results97 rfl ⟨_, rfl, M_2, hM_2, (congrArg Value.bool (by (clear E S; unfold QF; first | (have e := (Zc (l := pl0) (by assumption)).1; simp_all; done) | (have e : pl0 = [] := List.eq_nil_of_length_eq_zero (by omega); simp_all; done) | (simp_all; done)))), S⟩
   ·refine Qh (T_n (Qb (Qa (S_v E rfl (Ql E rfl (ji _)) rfl fun _ E1 => S_v E1 rfl (Qj E1 rfl Tryz.isAgg3 S.imm (Qo hb_1 rfl)) rfl fun _ E2 => S_v E2 rfl (Yv E2 rfl rfl) rfl fun _ E3 => S_m E3 rfl rfl ?_))))
    clear E a E1 E2 E3; intro a E
    refine QK (decide (pn0 ≠ 0)) (fun hc_10 => ?_) (fun hc_10 => ?_)
    ·replace E := E.val (t := 28) rfl hc_10
     replace E := E.val (t := 29) rfl hc_10
     replace hc_10 := of_decide_eq_true hc_10
     refine Qf E rfl rfl ?_
     refine S_m E rfl rfl ?_
     clear E a; intro a E
     refine Qf E rfl rfl ?_
     refine S_v E rfl (Ql E rfl (ji _)) rfl ?_
     clear E a; intro a E
     refine Qf E rfl rfl ?_
     refine S_v E rfl (Qj E rfl Tryz.isAgg3 S.imm (Qo hb_1 rfl)) rfl ?_
     clear E a; intro a E
     refine Qf E rfl rfl ?_
     refine S_x (Qr E S rfl rfl rfl (zc (by omega) (by omega) (by omega)) (Hp.le.refl _) ?_)
     clear E a S; rintro a _ w M_11 hM_11 rfl S E
     replace hw0 := hw0.le hM_11
     replace hb_1 := hM_11.2 _ _ hb_1
     refine Qf E rfl rfl ?_
     refine S_m E rfl rfl ?_
     clear E a; intro a E
     refine Qf E rfl rfl ?_
     refine S_v E rfl (Qv E rfl rfl) rfl fun _ E1 => S_v E1 rfl (QZ E1 rfl rfl) rfl fun _ E2 => S_a E2 rfl rfl ?_
     clear E a E1 E2; intro a E
     refine Qc (T_n (Qe (B_r ?_)))
     refine T_r ?_
     exact Qg E Tryz.results97 rfl ⟨_, rfl, M_11, (hM_2.trans hM_11), (congrArg Value.bool (by (clear E S; unfold QF; first | (have e := (Zc (l := pl0) (by assumption)).1; simp_all; done) | (have e : pl0 = [] := List.eq_nil_of_length_eq_zero (by omega); simp_all; done) | (simp_all; done)))), S⟩
    ·replace E := E.val (t := 28) rfl hc_10
     replace E := E.val (t := 29) rfl hc_10
     replace hc_10 := of_decide_eq_false hc_10
     refine Qd E rfl rfl rfl rfl fun a E => ?_
     refine Qd E rfl rfl rfl rfl fun a E => ?_
     refine Qd E rfl rfl rfl rfl fun a E => ?_
     refine Qd E rfl rfl rfl rfl fun a E => ?_
     refine Qd E rfl rfl rfl rfl fun a E => ?_
     refine Qd E rfl rfl rfl rfl fun a E => ?_
     refine S_v E rfl (QQ E rfl rfl) rfl fun _ E1 => S_a E1 rfl rfl ?_
     clear E a E1; intro a E
     refine Qc (T_n (Qe (B_r ?_)))
     refine T_r ?_
     exact Qg E Tryz.results97 rfl ⟨_, rfl, M_2, hM_2, (congrArg Value.bool (by (clear E S; unfold QF; first | (have e := (Zc (l := pl0) (by assumption)).1; simp_all; done) | (have e : pl0 = [] := List.eq_nil_of_length_eq_zero (by omega); simp_all; done) | (simp_all; done)))), S⟩
  ·refine Qb (Qa (S_v E rfl (Qv E rfl rfl) rfl fun _ E1 => S_a E1 rfl rfl ?_))
   clear E a E1; intro a E
   refine Qc (T_n ?_)
   refine Qn E rfl (fun hc_12 => ?_) (fun hc_12 => ?_)
   ·refine Qb (Qa (S_v E rfl (Ql E rfl (FA41_2 _)) rfl fun _ E1 => S_v E1 rfl (Qj E1 rfl Tryz.isAgg22 S.imm (Qo hb_1 rfl)) rfl fun _ E2 => S_m E2 rfl rfl ?_))
    clear E a E1 E2; intro a E
    refine S_x (Qr E S rfl rfl rfl (YM hw0) (Hp.le.refl _) ?_)
    clear E a S; rintro a _ w M_13 hM_13 rfl S E
    replace hw0 := hw0.le hM_13
    replace hb_1 := hM_13.2 _ _ hb_1
    refine S_a E rfl rfl ?_
    clear E a; intro a E
    refine Qc (T_n (Qe (B_r ?_)))
    refine T_r ?_
    exact Qg E Tryz.results97 rfl ⟨_, rfl, M_13, (hM_2.trans hM_13), (congrArg Value.bool (by (clear E S; unfold QF; first | (have e := (Zc (l := pl0) (by assumption)).1; simp_all; done) | (have e : pl0 = [] := List.eq_nil_of_length_eq_zero (by omega); simp_all; done) | (simp_all; done)))), S⟩
   ·refine Qb (Qa (S_v E rfl (Qv E rfl rfl) rfl fun _ E1 => S_a E1 rfl rfl ?_))
    clear E a E1; intro a E
    refine Qc (T_n ?_)
    refine Qn E rfl (fun hc_14 => ?_) (fun hc_14 => ?_)
    ·refine Qb (Qa (S_m E rfl rfl fun _ E1 => S_v E1 rfl (UH E1 rfl rfl (by decide)) rfl fun _ E2 => S_v E2 rfl (Qv E2 rfl rfl) rfl fun _ E3 => S_a E3 rfl rfl ?_))
     clear E a E1 E2 E3; intro a E
     refine Qc (T_n (Qe (B_r ?_)))
     refine T_r ?_
     exact Qg E Tryz.results97 rfl ⟨_, rfl, M_2, hM_2, (congrArg Value.bool (by (clear E S; unfold QF; first | (have e := (Zc (l := pl0) (by assumption)).1; simp_all; done) | (have e : pl0 = [] := List.eq_nil_of_length_eq_zero (by omega); simp_all; done) | (simp_all; done)))), S⟩
    ·refine Qh (B_n (T_n (Qb (Qa (S_v E rfl (Ql E rfl (FA41_0 _)) rfl fun _ E1 => S_v E1 rfl (Qj E1 rfl Tryz.isAgg3 S.imm (Qo hb_1 rfl)) rfl fun _ E2 => S_v E2 rfl (Qv E2 rfl rfl) rfl fun _ E3 => S_a E3 rfl rfl ?_)))))
     clear E a E1 E2 E3; intro a E
     refine Qc (T_n (Qe ?_))
     exact Qg E Tryz.results97 rfl ⟨_, rfl, M_2, hM_2, (congrArg Value.bool (by (clear E S; unfold QF; first | (have e := (Zc (l := pl0) (by assumption)).1; simp_all; done) | (have e : pl0 = [] := List.eq_nil_of_length_eq_zero (by omega); simp_all; done) | (simp_all; done)))), S⟩
theorem SPred_Holds {M : Hp} {pk0 pn0 : Int} {w0 : Value} {pl0 : List Int} (hw0 : RdI M w0 pl0) (gn0 : -9223372036854775808 ≤ pn0 ∧ pn0 ≤ 9223372036854775807){x1 x2 : Int} (gx : -9223372036854775808 ≤ x1 ∧ x1 ≤ 9223372036854775807) :
  Pu Tryz.prog (.func (.func 97) #[.agg #[.int .i64 pk0, .int .i64 pn0, w0]] #[]) M [.int .i64 x1, .int .i64 x2] (fun r M' => r = .bool (QF pk0 pn0 pl0 x1 x2)) := PuC.pu Tryz.call97 rfl (WK hw0 gn0 gx)
theorem YP {M : Hp} {pk0 pn0 : Int} {w0 : Value} {pl0 : List Int} (hw0 : RdI M w0 pl0) (gn0 : -9223372036854775808 ≤ pn0 ∧ pn0 ≤ 9223372036854775807){x1 x2 : Int} (gx : -9223372036854775808 ≤ x1 ∧ x1 ≤ 9223372036854775807) :
  Pu Tryz.prog (.func (.func 97) #[] #[]) M [.agg #[.int .i64 pk0, .int .i64 pn0, w0], .int .i64 x1, .int .i64 x2] (fun r M' => r = .bool (QF pk0 pn0 pl0 x1 x2)) := PuC.pu Tryz.call97 rfl (WK hw0 gn0 gx)
theorem Vy {M : Hp} {v0 : Value} {l0 : List Int} (h0 : RdI M v0 l0){pk1 pn1 : Int} {w1 : Value} {pl1 : List Int} (hw1 : RdI M w1 pl1) (gn1 : -9223372036854775808 ≤ pn1 ∧ pn1 ≤ 9223372036854775807) (hb : l0.length ≤ 1000000000000) (hr0 : (∀ x ∈ l0, -9223372036854775808 ≤ x ∧ x ≤ 9223372036854775807)) :
  Pu Tryz.prog (.func (.func 95) #[] #[]) M [v0, .agg #[.int .i64 pk1, .int .i64 pn1, w1]] (fun r M' => ∃ t0 t1, r = .tuple #[t0, t1] ∧ RdI M' t0 (QP (QF pk1 pn1 pl1) 0 l0) ∧ RdI M' t1 (QP (fun x i => !(QF pk1 pn1 pl1) x i) 0 l0)) := by
 refine Qk Tryz.func95 rfl Tryz.ntmps95 rfl Tryz.call95 ?_
 intro a w M1 H hM1 S E
 replace h0 := h0.le hM1
 replace hw1 := hw1.le hM1
 have b0 := h0.bound
 refine Qb (Qa ?_)
 refine S_x (Jc (cs := #[.int .i64 pk1, .int .i64 pn1, w1]) E S rfl rfl rfl ?_)
 clear E a S; rintro a w b_1 E S
 obtain ⟨M_2, hM_2, hb_1, S⟩ := S.freezeB
 replace h0 := h0.le hM_2
 replace hw1 := hw1.le hM_2
 refine S_a E rfl rfl fun _ E1 => S_a E1 rfl rfl fun _ E2 => Qc (T_n (Qb (Qb (Qa (S_m E2 rfl rfl fun _ E3 => S_v E3 rfl (Qp E3 rfl T22 h0.len) rfl fun _ E4 => S_m E4 rfl rfl ?_)))))
 clear E a E1 E2 E3 E4; intro a E
 refine Qc (T_n (Qi ?_))
 replace S := (S.ownNil (e := 3) (sz := 1)).made0
 replace S := (S.ownNil (e := 3) (sz := 1)).made0
 replace S := S.front1
 replace S := S.re1 (l' := QP (fun x i => !(QF pk1 pn1 pl1) x i) 0 (l0.take 0)) (by (simp [QP]; done))
 replace S := S.front1
 replace S := S.re1 (l' := QP (QF pk1 pn1 pl1) 0 (l0.take 0)) (by (simp [QP]; done))
 refine Qx (γ := Nat) (fun (k : Nat) a w => ∃ (M_5 : Hp) (u4 : Value) (u5 : Value), Hp.le M_2 M_5 ∧ St w M_5 (QR 3 u4 (QP (QF pk1 pn1 pl1) 0 (l0.take k)) :: QR 3 u5 (QP (fun x i => !(QF pk1 pn1 pl1) x i) 0 (l0.take k)) :: H) ∧ Env a 30 [] [(3, .pointer (some ⟨b_1, 0, none⟩)), (4, u4), (5, u5), (8, v0), (9, .int .i64 (((l0).length : Nat) : Int)), (10, .int .i64 ((k : Nat) : Int))] ∧ (k ≤ (l0).length)) (fun k => ((l0).length) - k) 0 ⟨M_2, _, _, Hp.le.refl _, S, E.keep ⟨rfl, rfl, rfl, rfl, rfl, rfl, trivial⟩, by (omega)⟩ ?_
 try clear E
 try clear S
 try clear a
 try clear w
 rintro k a w ⟨M_5, u4, u5, hM_5, S, E, hL0_0⟩
 replace h0 := h0.le hM_5
 replace hw1 := hw1.le hM_5
 replace hb_1 := hM_5.2 _ _ hb_1
 have hfa := Jv (QF pk1 pn1 pl1) (l0.take k) 0; have hfb := Jv (fun x i => !(QF pk1 pn1 pl1) x i) (l0.take k) 0; simp only [List.length_take] at hfa hfb
 refine Qb (Qa (S_v E rfl (QG E rfl rfl) rfl ?_))
 clear E a; intro a E
 refine Qc (T_n (Qb ?_))
 refine Qn E rfl (fun hc_6 => ?_) (fun hc_6 => ?_)
 ·refine Qh (T_n (Qb (Qi (Qb (Qa (S_m E rfl rfl ?_))))))
  clear E a; intro a E
  obtain ⟨x_7, hx_7⟩ : ∃ x, (l0)[k]? = some x := ⟨_, List.getElem?_eq_getElem (by omega)⟩
  obtain ⟨p_8, hp_8, qp_8⟩ := h0.at hx_7
  refine S_v E rfl (QB E rfl rfl T22 hp_8 rfl) rfl fun _ E1 => S_v E1 rfl (Qj E1 rfl Tryz.isAgg3 S.imm qp_8) rfl fun _ E2 => S_a E2 rfl rfl fun _ E3 => S_a E3 rfl rfl fun _ E4 => Qc (T_n (Qb (Qa (S_v E4 rfl (QA E4 rfl (Tryz.isAgg41 _) (Tryz.sizeOf41 _) S.imm hb_1) rfl fun _ E5 => S_m E5 rfl rfl ?_))))
  clear E a E1 E2 E3 E4 E5; intro a E
  refine S_m E rfl rfl ?_
  clear E a; intro a E
  refine S_x (Qr E S rfl rfl rfl (YP hw1 (by omega) (by exact hr0 _ (List.mem_of_getElem? (by assumption)))) (Hp.le.refl _) ?_)
  clear E a S; rintro a _ w M_9 hM_9 rfl S E
  refine Qc (T_n ?_)
  refine QL E rfl (fun hc_10 => ?_) (fun hc_10 => ?_)
  ·refine Qa ?_
   refine S_m E rfl rfl fun _ E1 => S_m E1 rfl rfl ?_
   clear E a E1; intro a E
   refine S_x (Qy (ys := [x_7]) E S rfl T22 rfl rfl rfl ?_)
   clear E a S; rintro a w v_11 E S
   replace S := S.front1
   replace S := S.front1
   refine S_x (QH (xs := QP (QF pk1 pn1 pl1) 0 (l0.take k)) (ys := [x_7]) E S rfl rfl rfl T22 (by (simp; omega)) ?_)
   clear E a S; rintro a w v_12 E S
   refine S_a E rfl rfl fun _ E1 => Qc (B_n (T_n (Qa (S_v E1 rfl (Qq (m := ((k + 1 : Nat) : Int)) E1 rfl rfl (by omega) (by omega)) rfl fun _ E2 => S_m E2 rfl rfl ?_))))
   clear E a E1 E2; intro a E
   refine Qc (T_n ?_)
   replace S := S.front1
   replace S := S.re1 (l' := QP (fun x i => !(QF pk1 pn1 pl1) x i) 0 (l0.take (k + 1))) (by (rw [Jb (by assumption)]; simp [*]; done))
   replace S := S.front1
   replace S := S.re1 (l' := QP (QF pk1 pn1 pl1) 0 (l0.take (k + 1))) (by (rw [Jb (by assumption)]; simp [*]; done))
   exact ⟨k + 1, ⟨M_9, _, _, (hM_5.trans hM_9), S, E.keep ⟨rfl, rfl, rfl, rfl, rfl, rfl, trivial⟩, by (omega)⟩, by omega⟩
  ·refine Qa ?_
   refine S_m E rfl rfl fun _ E1 => S_m E1 rfl rfl ?_
   clear E a E1; intro a E
   refine S_x (Qy (ys := [x_7]) E S rfl T22 rfl rfl rfl ?_)
   clear E a S; rintro a w v_13 E S
   replace S := S.front2
   replace S := S.front1
   refine S_x (QH (xs := QP (fun x i => !(QF pk1 pn1 pl1) x i) 0 (l0.take k)) (ys := [x_7]) E S rfl rfl rfl T22 (by (simp; omega)) ?_)
   clear E a S; rintro a w v_14 E S
   refine S_a E rfl rfl fun _ E1 => Qc (B_n (T_n (Qa (S_v E1 rfl (Qq (m := ((k + 1 : Nat) : Int)) E1 rfl rfl (by omega) (by omega)) rfl fun _ E2 => S_m E2 rfl rfl ?_))))
   clear E a E1 E2; intro a E
   refine Qc (T_n ?_)
   replace S := S.front1
   replace S := S.front1
   replace S := S.re1 (l' := QP (fun x i => !(QF pk1 pn1 pl1) x i) 0 (l0.take (k + 1))) (by (rw [Jb (by assumption)]; simp [*]; done))
   replace S := S.front1
   replace S := S.re1 (l' := QP (QF pk1 pn1 pl1) 0 (l0.take (k + 1))) (by (rw [Jb (by assumption)]; simp [*]; done))
   exact ⟨k + 1, ⟨M_9, _, _, (hM_5.trans hM_9), S, E.keep ⟨rfl, rfl, rfl, rfl, rfl, rfl, trivial⟩, by (omega)⟩, by omega⟩
 ·refine Qt (T_x (T_x (B_x (T_n (Qb (Qa (S_m E rfl rfl fun _ E1 => S_m E1 rfl rfl fun _ E2 => S_a E2 rfl rfl fun _ E3 => S_a E3 rfl rfl ?_)))))))
  clear E a E1 E2 E3; intro a E
  refine Qc (T_n (Qe ?_))
  have S0 := S; clear S
  obtain ⟨M_15, hM_15, hz_16, S⟩ := S0.freezeI (by (have hfa := Jv (QF pk1 pn1 pl1) (l0.take k) 0; have hfb := Jv (fun x i => !(QF pk1 pn1 pl1) x i) (l0.take k) 0; simp only [List.length_take] at hfa hfb; omega))
  clear S0
  have S0 := S; clear S
  obtain ⟨M_17, hM_17, hz_18, S⟩ := S0.freezeI (by (have hfa := Jv (QF pk1 pn1 pl1) (l0.take k) 0; have hfb := Jv (fun x i => !(QF pk1 pn1 pl1) x i) (l0.take k) 0; simp only [List.length_take] at hfa hfb; omega))
  clear S0
  replace hz_16 := hz_16.le hM_17
  exact Jt E Tryz.results95 rfl rfl ⟨_, rfl, M_17, (hM_2.trans (hM_5.trans (hM_15.trans hM_17))), ⟨_, _, rfl, (RdS.eqL hz_16 (by (rw [List.take_of_length_le (by omega)]))), (RdS.eqL hz_18 (by (rw [List.take_of_length_le (by omega)])))⟩, S⟩
theorem UR {M : Hp} {v0 : Value} {l0 : List Int} (h0 : RdI M v0 l0){pk1 pn1 : Int} {w1 : Value} {pl1 : List Int} (hw1 : RdI M w1 pl1) (gn1 : -9223372036854775808 ≤ pn1 ∧ pn1 ≤ 9223372036854775807) (hb : l0.length ≤ 1000000000000) (hr0 : (∀ x ∈ l0, -9223372036854775808 ≤ x ∧ x ≤ 9223372036854775807)) :
  Pu Tryz.prog (.func (.func 20) #[] #[]) M [v0, .agg #[.int .i64 pk1, .int .i64 pn1, w1]] (fun r M' => RdI M' r (QP (QF pk1 pn1 pl1) 0 l0)) := by
 refine Qk Tryz.func20 rfl Tryz.ntmps20 rfl Tryz.call20 ?_
 intro a w M1 H hM1 S E
 replace h0 := h0.le hM1
 replace hw1 := hw1.le hM1
 have b0 := h0.bound
 refine Qb (Qa ?_)
 refine S_x (Jc (cs := #[.int .i64 pk1, .int .i64 pn1, w1]) E S rfl rfl rfl ?_)
 clear E a S; rintro a w b_1 E S
 obtain ⟨M_2, hM_2, hb_1, S⟩ := S.freezeB
 replace h0 := h0.le hM_2
 replace hw1 := hw1.le hM_2
 refine S_a E rfl rfl fun _ E1 => Qc (T_n (Qb (Qa (S_m E1 rfl rfl fun _ E2 => S_v E2 rfl (QA E2 rfl (Tryz.isAgg41 _) (Tryz.sizeOf41 _) S.imm hb_1) rfl ?_))))
 clear E a E1 E2; intro a E
 refine S_x (Qr E S rfl rfl rfl (Vy h0 hw1 (by omega) (by (omega)) (by assumption)) (Hp.le.refl _) ?_)
 clear E a S; rintro a _ w M_3 hM_3 ⟨v_4, v_5, rfl, hv_4, hv_5⟩ S E
 refine S_m E rfl rfl fun _ E1 => S_v E1 rfl (Qm E1 rfl rfl) rfl fun _ E2 => S_v E2 rfl (Qm E2 rfl rfl) rfl fun _ E3 => S_a E3 rfl rfl fun _ E4 => S_a E4 rfl rfl fun _ E5 => Qc (T_n (Qb (Qa (S_m E5 rfl rfl ?_))))
 clear E a E1 E2 E3 E4 E5; intro a E
 refine S_a E rfl rfl ?_
 clear E a; intro a E
 refine Qc (T_n (Qe ?_))
 exact Qg E Tryz.results20 rfl ⟨_, rfl, M_3, (hM_2.trans hM_3), hv_4, S⟩
theorem qe {M : Hp} {v0 : Value} {l0 : List Int} (h0 : RdI M v0 l0){pk1 pn1 : Int} {w1 : Value} {pl1 : List Int} (hw1 : RdI M w1 pl1) (gn1 : -9223372036854775808 ≤ pn1 ∧ pn1 ≤ 9223372036854775807) (hb : l0.length ≤ 1000000000000) (hr0 : (∀ x ∈ l0, -9223372036854775808 ≤ x ∧ x ≤ 9223372036854775807)) :
  Pu Tryz.prog (.func (.func 21) #[] #[]) M [v0, .agg #[.int .i64 pk1, .int .i64 pn1, w1]] (fun r M' => RdI M' r (QP (fun x i => !(QF pk1 pn1 pl1) x i) 0 l0)) := by
 refine Qk Tryz.func21 rfl Tryz.ntmps21 rfl Tryz.call21 ?_
 intro a w M1 H hM1 S E
 replace h0 := h0.le hM1
 replace hw1 := hw1.le hM1
 have b0 := h0.bound
 refine Qb (Qa ?_)
 refine S_x (Jc (cs := #[.int .i64 pk1, .int .i64 pn1, w1]) E S rfl rfl rfl ?_)
 clear E a S; rintro a w b_1 E S
 obtain ⟨M_2, hM_2, hb_1, S⟩ := S.freezeB
 replace h0 := h0.le hM_2
 replace hw1 := hw1.le hM_2
 refine S_a E rfl rfl fun _ E1 => Qc (T_n (Qb (Qa (S_m E1 rfl rfl fun _ E2 => S_v E2 rfl (QA E2 rfl (Tryz.isAgg41 _) (Tryz.sizeOf41 _) S.imm hb_1) rfl ?_))))
 clear E a E1 E2; intro a E
 refine S_x (Qr E S rfl rfl rfl (Vy h0 hw1 (by omega) (by (omega)) (by assumption)) (Hp.le.refl _) ?_)
 clear E a S; rintro a _ w M_3 hM_3 ⟨v_4, v_5, rfl, hv_4, hv_5⟩ S E
 refine S_m E rfl rfl fun _ E1 => S_v E1 rfl (Qm E1 rfl rfl) rfl fun _ E2 => S_v E2 rfl (Qm E2 rfl rfl) rfl fun _ E3 => S_a E3 rfl rfl fun _ E4 => S_a E4 rfl rfl fun _ E5 => Qc (T_n (Qb (Qa (S_m E5 rfl rfl ?_))))
 clear E a E1 E2 E3 E4 E5; intro a E
 refine S_a E rfl rfl ?_
 clear E a; intro a E
 refine Qc (T_n (Qe ?_))
 exact Qg E Tryz.results21 rfl ⟨_, rfl, M_3, (hM_2.trans hM_3), hv_5, S⟩
theorem yg {M : Hp} {kk0 kn0 : Int} (gk0 : -9223372036854775808 ≤ kn0 ∧ kn0 ≤ 9223372036854775807){x1 x2 : Int} (gx : -9223372036854775808 ≤ x1 ∧ x1 ≤ 9223372036854775807) :
  PuC Tryz.prog 96 M [.agg #[.int .i64 kk0, .int .i64 kn0], .int .i64 x1, .int .i64 x2] (fun r M' => r = .int .i64 (Qs kk0 kn0 x1 x2)) := by
 refine YJ Tryz.func96 rfl Tryz.ntmps96 rfl ?_
 intro a w M1 H hM1 S E
 refine Qb (Qa ?_)
 refine S_x (Jc (cs := #[.int .i64 kk0, .int .i64 kn0]) E S rfl rfl rfl ?_)
 clear E a S; rintro a w b_1 E S
 obtain ⟨M_2, hM_2, hb_1, S⟩ := S.freezeB
 refine S_a E rfl rfl fun _ E1 => Qc (T_n (Qb (Qb (Qa (S_v E1 rfl (Ql E1 rfl (FA42_0 _)) rfl fun _ E2 => S_v E2 rfl (Qj E2 rfl Tryz.isAgg3 S.imm (Qo hb_1 rfl)) rfl fun _ E3 => Qc (T_n (Qi (Qb (Qa (S_v E3 rfl (Qv E3 rfl rfl) rfl fun _ E4 => S_a E4 rfl rfl ?_))))))))))
 clear E a E1 E2 E3 E4; intro a E
 refine Qc (T_n ?_)
 refine Qn E rfl (fun hc_3 => ?_) (fun hc_3 => ?_)
 ·refine Qb (Qa (S_m E rfl rfl fun _ E1 => S_v E1 rfl (Ql E1 rfl (jh _)) rfl fun _ E2 => S_v E2 rfl (Qj E2 rfl Tryz.isAgg3 S.imm (Qo hb_1 rfl)) rfl fun _ E3 => S_v E3 rfl (R_add E3 rfl rfl) rfl fun _ E4 => S_a E4 rfl rfl ?_))
  clear E a E1 E2 E3 E4; intro a E
  refine Qc (T_n (Qe (B_r ?_)))
  refine T_r ?_
  exact Qg E Tryz.results96 rfl ⟨_, rfl, M_2, hM_2, (congrArg (Value.int .i64) (by (clear E S; unfold Qs w64; first | (simp [*]; done) | (simp_all; done)))), S⟩
 ·refine Qb (Qa (S_v E rfl (Qv E rfl rfl) rfl fun _ E1 => S_a E1 rfl rfl ?_))
  clear E a E1; intro a E
  refine Qc (T_n ?_)
  refine Qn E rfl (fun hc_4 => ?_) (fun hc_4 => ?_)
  ·refine Qb (Qa (S_m E rfl rfl fun _ E1 => S_v E1 rfl (Ql E1 rfl (jh _)) rfl fun _ E2 => S_v E2 rfl (Qj E2 rfl Tryz.isAgg3 S.imm (Qo hb_1 rfl)) rfl fun _ E3 => S_v E3 rfl (R_mul E3 rfl rfl) rfl fun _ E4 => S_a E4 rfl rfl ?_))
   clear E a E1 E2 E3 E4; intro a E
   refine Qc (T_n (Qe (B_r ?_)))
   refine T_r ?_
   exact Qg E Tryz.results96 rfl ⟨_, rfl, M_2, hM_2, (congrArg (Value.int .i64) (by (clear E S; unfold Qs w64; first | (simp [*]; done) | (simp_all; done)))), S⟩
  ·refine Qb (Qa (S_v E rfl (Qv E rfl rfl) rfl fun _ E1 => S_a E1 rfl rfl ?_))
   clear E a E1; intro a E
   refine Qc (T_n ?_)
   refine Qn E rfl (fun hc_5 => ?_) (fun hc_5 => ?_)
   ·refine Qb (Qa (S_v E rfl (Ql E rfl (jh _)) rfl fun _ E1 => S_v E1 rfl (Qj E1 rfl Tryz.isAgg3 S.imm (Qo hb_1 rfl)) rfl fun _ E2 => S_v E2 rfl (Yv E2 rfl rfl) rfl ?_))
    clear E a E1 E2; intro a E
    refine Qc (T_n ?_)
    refine Qn E rfl (fun hc_6 => ?_) (fun hc_6 => ?_)
    ·refine Qb (Qa (S_m E rfl rfl fun _ E1 => S_v E1 rfl (Ql E1 rfl (jh _)) rfl fun _ E2 => S_v E2 rfl (Qj E2 rfl Tryz.isAgg3 S.imm (Qo hb_1 rfl)) rfl ?_))
     clear E a E1 E2; intro a E
     refine S_x (Qr E S rfl rfl rfl (zc (by omega) (by omega) (by omega)) (Hp.le.refl _) ?_)
     clear E a S; rintro a _ w M_7 hM_7 rfl S E
     replace hb_1 := hM_7.2 _ _ hb_1
     refine S_a E rfl rfl ?_
     clear E a; intro a E
     refine Qc (T_n (Qe (B_r ?_)))
     refine T_r ?_
     exact Qg E Tryz.results96 rfl ⟨_, rfl, M_7, (hM_2.trans hM_7), (congrArg (Value.int .i64) (by (clear E S; unfold Qs w64; first | (simp [*]; done) | (simp_all; done)))), S⟩
    ·refine Qh (B_n (T_n (Qb (Qa (S_m E rfl rfl fun _ E1 => S_a E1 rfl rfl ?_)))))
     clear E a E1; intro a E
     refine Qc (T_n (Qe ?_))
     exact Qg E Tryz.results96 rfl ⟨_, rfl, M_2, hM_2, (congrArg (Value.int .i64) (by (clear E S; unfold Qs w64; first | (simp [*]; done) | (simp_all; done)))), S⟩
   ·refine Qb (Qa (S_v E rfl (Qv E rfl rfl) rfl fun _ E1 => S_a E1 rfl rfl ?_))
    clear E a E1; intro a E
    refine Qc (T_n ?_)
    refine Qn E rfl (fun hc_8 => ?_) (fun hc_8 => ?_)
    ·refine Qb (Qa (S_v E rfl (Ql E rfl (jh _)) rfl fun _ E1 => S_v E1 rfl (Qj E1 rfl Tryz.isAgg3 S.imm (Qo hb_1 rfl)) rfl fun _ E2 => S_a E2 rfl rfl ?_))
     clear E a E1 E2; intro a E
     refine Qc (T_n (Qe (B_r ?_)))
     refine T_r ?_
     exact Qg E Tryz.results96 rfl ⟨_, rfl, M_2, hM_2, (congrArg (Value.int .i64) (by (clear E S; unfold Qs w64; first | (simp [*]; done) | (simp_all; done)))), S⟩
    ·refine Qb (Qa (S_v E rfl (Qv E rfl rfl) rfl fun _ E1 => S_a E1 rfl rfl ?_))
     clear E a E1; intro a E
     refine Qc (T_n ?_)
     refine Qn E rfl (fun hc_9 => ?_) (fun hc_9 => ?_)
     ·refine Qb (Qa (S_m E rfl rfl fun _ E1 => S_a E1 rfl rfl ?_))
      clear E a E1; intro a E
      refine Qc (T_n (Qe (B_r ?_)))
      refine T_r ?_
      exact Qg E Tryz.results96 rfl ⟨_, rfl, M_2, hM_2, (congrArg (Value.int .i64) (by (clear E S; unfold Qs w64; first | (simp [*]; done) | (simp_all; done)))), S⟩
     ·refine Qh (B_n (T_n (Qb (Qa (S_m E rfl rfl fun _ E1 => S_a E1 rfl rfl ?_)))))
      clear E a E1; intro a E
      refine Qc (T_n (Qe ?_))
      exact Qg E Tryz.results96 rfl ⟨_, rfl, M_2, hM_2, (congrArg (Value.int .i64) (by (clear E S; unfold Qs w64; first | (simp [*]; done) | (simp_all; done)))), S⟩
theorem SKey_Of {M : Hp} {kk0 kn0 : Int} (gk0 : -9223372036854775808 ≤ kn0 ∧ kn0 ≤ 9223372036854775807){x1 x2 : Int} (gx : -9223372036854775808 ≤ x1 ∧ x1 ≤ 9223372036854775807) :
  Pu Tryz.prog (.func (.func 96) #[.agg #[.int .i64 kk0, .int .i64 kn0]] #[]) M [.int .i64 x1, .int .i64 x2] (fun r M' => r = .int .i64 (Qs kk0 kn0 x1 x2)) := PuC.pu Tryz.call96 rfl (yg gk0 gx)
theorem Uj {M : Hp} {kk0 kn0 : Int} (gk0 : -9223372036854775808 ≤ kn0 ∧ kn0 ≤ 9223372036854775807){x1 x2 : Int} (gx : -9223372036854775808 ≤ x1 ∧ x1 ≤ 9223372036854775807) :
  Pu Tryz.prog (.func (.func 96) #[] #[]) M [.agg #[.int .i64 kk0, .int .i64 kn0], .int .i64 x1, .int .i64 x2] (fun r M' => r = .int .i64 (Qs kk0 kn0 x1 x2)) := PuC.pu Tryz.call96 rfl (yg gk0 gx)
theorem vz {M : Hp} {v0 : Value} {l0 : List Int} (h0 : RdI M v0 l0){kk1 kn1 : Int} (gk1 : -9223372036854775808 ≤ kn1 ∧ kn1 ≤ 9223372036854775807) (hb : l0.length ≤ 1000000000000) (hr0 : (∀ x ∈ l0, -9223372036854775808 ≤ x ∧ x ≤ 9223372036854775807)) :
  Pu Tryz.prog (.func (.func 22) #[] #[]) M [v0, .agg #[.int .i64 kk1, .int .i64 kn1]] (fun r M' => RdI M' r (ZN (Qs kk1 kn1) 0 l0)) := by
 refine Qk Tryz.func22 rfl Tryz.ntmps22 rfl Tryz.call22 ?_
 intro a w M1 H hM1 S E
 replace h0 := h0.le hM1
 have b0 := h0.bound
 refine Qb (Qa ?_)
 refine S_x (Jc (cs := #[.int .i64 kk1, .int .i64 kn1]) E S rfl rfl rfl ?_)
 clear E a S; rintro a w b_1 E S
 obtain ⟨M_2, hM_2, hb_1, S⟩ := S.freezeB
 replace h0 := h0.le hM_2
 refine S_a E rfl rfl fun _ E1 => Qc (T_n (Qb (Qa (S_a E1 rfl rfl fun _ E2 => Qc (T_n (Qb (Qb (Qa (S_m E2 rfl rfl fun _ E3 => S_v E3 rfl (Qp E3 rfl T22 h0.len) rfl fun _ E4 => S_m E4 rfl rfl ?_)))))))))
 clear E a E1 E2 E3 E4; intro a E
 refine Qc (T_n (Qi ?_))
 replace S := (S.ownNil (e := 3) (sz := 1)).made0
 replace S := S.re1 (l' := ZN (Qs kk1 kn1) 0 (l0.take 0)) (by (simp [ZN]; done))
 refine Qx (γ := Nat) (fun (k : Nat) a w => ∃ (M_4 : Hp) (u5 : Value), Hp.le M_2 M_4 ∧ St w M_4 (QR 3 u5 (ZN (Qs kk1 kn1) 0 (l0.take k)) :: H) ∧ Env a 24 [] [(3, .pointer (some ⟨b_1, 0, none⟩)), (5, u5), (8, v0), (9, .int .i64 (((l0).length : Nat) : Int)), (10, .int .i64 ((k : Nat) : Int))] ∧ (k ≤ (l0).length)) (fun k => ((l0).length) - k) 0 ⟨M_2, _, Hp.le.refl _, S, E.keep ⟨rfl, rfl, rfl, rfl, rfl, trivial⟩, by (omega)⟩ ?_
 try clear E
 try clear S
 try clear a
 try clear w
 rintro k a w ⟨M_4, u5, hM_4, S, E, hL0_0⟩
 replace h0 := h0.le hM_4
 replace hb_1 := hM_4.2 _ _ hb_1
 have hml := VZ (Qs kk1 kn1) (l0.take k) 0; simp only [List.length_take] at hml
 refine Qb (Qa (S_v E rfl (QG E rfl rfl) rfl ?_))
 clear E a; intro a E
 refine Qc (T_n (Qb ?_))
 refine Qn E rfl (fun hc_5 => ?_) (fun hc_5 => ?_)
 ·refine Qh (T_n (Qb (Qi (Qb (Qa (S_m E rfl rfl ?_))))))
  clear E a; intro a E
  obtain ⟨x_6, hx_6⟩ : ∃ x, (l0)[k]? = some x := ⟨_, List.getElem?_eq_getElem (by omega)⟩
  obtain ⟨p_7, hp_7, qp_7⟩ := h0.at hx_6
  refine S_v E rfl (QB E rfl rfl T22 hp_7 rfl) rfl fun _ E1 => S_v E1 rfl (Qj E1 rfl Tryz.isAgg3 S.imm qp_7) rfl fun _ E2 => S_a E2 rfl rfl fun _ E3 => S_a E3 rfl rfl fun _ E4 => Qc (T_n (Qa (S_m E4 rfl rfl fun _ E5 => S_v E5 rfl (QA E5 rfl (Tryz.isAgg42 _) (Tryz.sizeOf42 _) S.imm hb_1) rfl ?_)))
  clear E a E1 E2 E3 E4 E5; intro a E
  refine S_m E rfl rfl fun _ E1 => S_m E1 rfl rfl ?_
  clear E a E1; intro a E
  refine S_x (Qr E S rfl rfl rfl (Uj (by omega) (by exact hr0 _ (List.mem_of_getElem? (by assumption)))) (Hp.le.refl _) ?_)
  clear E a S; rintro a _ w M_8 hM_8 rfl S E
  refine S_x (Qy (ys := [Qs kk1 kn1 x_6 ((k : Nat) : Int)]) E S rfl T22 rfl rfl rfl ?_)
  clear E a S; rintro a w v_9 E S
  replace S := S.front1
  replace S := S.front1
  refine S_x (QH (xs := ZN (Qs kk1 kn1) 0 (l0.take k)) (ys := [Qs kk1 kn1 x_6 ((k : Nat) : Int)]) E S rfl rfl rfl T22 (by (simp; omega)) ?_)
  clear E a S; rintro a w v_10 E S
  refine S_a E rfl rfl fun _ E1 => Qc (B_n (T_n (Qa (S_v E1 rfl (Qq (m := ((k + 1 : Nat) : Int)) E1 rfl rfl (by omega) (by omega)) rfl fun _ E2 => S_m E2 rfl rfl ?_))))
  clear E a E1 E2; intro a E
  refine Qc (T_n ?_)
  replace S := S.re1 (l' := ZN (Qs kk1 kn1) 0 (l0.take (k + 1))) (by (rw [GM (by assumption)]; done))
  exact ⟨k + 1, ⟨M_8, _, (hM_4.trans hM_8), S, E.keep ⟨rfl, rfl, rfl, rfl, rfl, trivial⟩, by (omega)⟩, by omega⟩
 ·refine Qt (T_x (T_x (B_x (T_n (Qb (Qa (S_m E rfl rfl fun _ E1 => S_a E1 rfl rfl ?_)))))))
  clear E a E1; intro a E
  refine Qc (T_n (Qe ?_))
  have S0 := S; clear S
  obtain ⟨M_11, hM_11, hz_12, S⟩ := S0.freezeI (by (have hml := VZ (Qs kk1 kn1) (l0.take k) 0; simp only [List.length_take] at hml; omega))
  clear S0
  exact Qg E Tryz.results22 rfl ⟨_, rfl, M_11, (hM_2.trans (hM_4.trans hM_11)), (RdS.eqL hz_12 (by (rw [List.take_of_length_le (by omega)]))), S⟩
theorem UQ {M : Hp} {v0 : Value} {l0 : List Int} (h0 : RdI M v0 l0){pk1 pn1 : Int} {w1 : Value} {pl1 : List Int} (hw1 : RdI M w1 pl1) (gn1 : -9223372036854775808 ≤ pn1 ∧ pn1 ≤ 9223372036854775807) {kk2 kn2 : Int} (gk2 : -9223372036854775808 ≤ kn2 ∧ kn2 ≤ 9223372036854775807) (hb : l0.length ≤ 1000000000000) (hr0 : (∀ x ∈ l0, -9223372036854775808 ≤ x ∧ x ≤ 9223372036854775807)) :
  Pu Tryz.prog (.func (.func 23) #[] #[]) M [v0, .agg #[.int .i64 pk1, .int .i64 pn1, w1], .agg #[.int .i64 kk2, .int .i64 kn2]] (fun r M' => RdI M' r (Zb (fun x i => (Qs kk2 kn2 x i, QF pk1 pn1 pl1 x i)) 0 l0)) := by
 refine Qk Tryz.func23 rfl Tryz.ntmps23 rfl Tryz.call23 ?_
 intro a w M1 H hM1 S E
 replace h0 := h0.le hM1
 replace hw1 := hw1.le hM1
 have b0 := h0.bound
 refine Qb (Qa ?_)
 refine S_x (Jc (cs := #[.int .i64 pk1, .int .i64 pn1, w1]) E S rfl rfl rfl ?_)
 clear E a S; rintro a w b_1 E S
 obtain ⟨M_2, hM_2, hb_1, S⟩ := S.freezeB
 replace h0 := h0.le hM_2
 replace hw1 := hw1.le hM_2
 refine S_x (Jc (cs := #[.int .i64 kk2, .int .i64 kn2]) E S rfl rfl rfl ?_)
 clear E a S; rintro a w b_3 E S
 obtain ⟨M_4, hM_4, hb_3, S⟩ := S.freezeB
 replace h0 := h0.le hM_4
 replace hw1 := hw1.le hM_4
 replace hb_1 := hM_4.2 _ _ hb_1
 refine S_a E rfl rfl fun _ E1 => Qc (T_n (Qb (Qa (S_a E1 rfl rfl fun _ E2 => Qc (T_n (Qb (Qb (Qa (S_m E2 rfl rfl fun _ E3 => S_v E3 rfl (Qp E3 rfl T22 h0.len) rfl fun _ E4 => S_m E4 rfl rfl ?_)))))))))
 clear E a E1 E2 E3 E4; intro a E
 refine Qc (T_n (Qi ?_))
 replace S := (S.ownNil (e := 3) (sz := 1)).made0
 replace S := S.re1 (l' := Zb (fun x i => (Qs kk2 kn2 x i, QF pk1 pn1 pl1 x i)) 0 (l0.take 0)) (by (simp [Zb]; done))
 refine Qx (γ := Nat) (fun (k : Nat) a w => ∃ (M_6 : Hp) (u7 : Value), Hp.le M_4 M_6 ∧ St w M_6 (QR 3 u7 (Zb (fun x i => (Qs kk2 kn2 x i, QF pk1 pn1 pl1 x i)) 0 (l0.take k)) :: H) ∧ Env a 30 [] [(4, .pointer (some ⟨b_1, 0, none⟩)), (5, .pointer (some ⟨b_3, 0, none⟩)), (7, u7), (10, v0), (11, .int .i64 (((l0).length : Nat) : Int)), (12, .int .i64 ((k : Nat) : Int))] ∧ (k ≤ (l0).length)) (fun k => ((l0).length) - k) 0 ⟨M_4, _, Hp.le.refl _, S, E.keep ⟨rfl, rfl, rfl, rfl, rfl, rfl, trivial⟩, by (omega)⟩ ?_
 try clear E
 try clear S
 try clear a
 try clear w
 rintro k a w ⟨M_6, u7, hM_6, S, E, hL0_0⟩
 replace h0 := h0.le hM_6
 replace hw1 := hw1.le hM_6
 replace hb_1 := hM_6.2 _ _ hb_1
 replace hb_3 := hM_6.2 _ _ hb_3
 have hfl := Uh (fun x i => (Qs kk2 kn2 x i, QF pk1 pn1 pl1 x i)) (l0.take k) 0; simp only [List.length_take] at hfl
 refine Qb (Qa (S_v E rfl (QG E rfl rfl) rfl ?_))
 clear E a; intro a E
 refine Qc (T_n (Qb ?_))
 refine Qn E rfl (fun hc_7 => ?_) (fun hc_7 => ?_)
 ·refine Qh (T_n (Qb (Qi (Qb (Qa (S_m E rfl rfl ?_))))))
  clear E a; intro a E
  obtain ⟨x_8, hx_8⟩ : ∃ x, (l0)[k]? = some x := ⟨_, List.getElem?_eq_getElem (by omega)⟩
  obtain ⟨p_9, hp_9, qp_9⟩ := h0.at hx_8
  refine S_v E rfl (QB E rfl rfl T22 hp_9 rfl) rfl fun _ E1 => S_v E1 rfl (Qj E1 rfl Tryz.isAgg3 S.imm qp_9) rfl fun _ E2 => S_a E2 rfl rfl fun _ E3 => S_a E3 rfl rfl fun _ E4 => Qc (T_n (Qb (Qa (S_v E4 rfl (QA E4 rfl (Tryz.isAgg41 _) (Tryz.sizeOf41 _) S.imm hb_1) rfl fun _ E5 => S_m E5 rfl rfl ?_))))
  clear E a E1 E2 E3 E4 E5; intro a E
  refine S_m E rfl rfl ?_
  clear E a; intro a E
  refine S_x (Qr E S rfl rfl rfl (YP hw1 (by omega) (by exact hr0 _ (List.mem_of_getElem? (by assumption)))) (Hp.le.refl _) ?_)
  clear E a S; rintro a _ w M_10 hM_10 rfl S E
  replace hb_3 := hM_10.2 _ _ hb_3
  refine Qc (T_n ?_)
  refine QL E rfl (fun hc_11 => ?_) (fun hc_11 => ?_)
  ·refine Qa ?_
   refine S_m E rfl rfl fun _ E1 => S_v E1 rfl (QA E1 rfl (Tryz.isAgg42 _) (Tryz.sizeOf42 _) S.imm hb_3) rfl fun _ E2 => S_m E2 rfl rfl fun _ E3 => S_m E3 rfl rfl ?_
   clear E a E1 E2 E3; intro a E
   refine S_x (Qr E S rfl rfl rfl (Uj (by omega) (by exact hr0 _ (List.mem_of_getElem? (by assumption)))) (Hp.le.refl _) ?_)
   clear E a S; rintro a _ w M_12 hM_12 rfl S E
   refine S_x (Qy (ys := [Qs kk2 kn2 x_8 ((k : Nat) : Int)]) E S rfl T22 rfl rfl rfl ?_)
   clear E a S; rintro a w v_13 E S
   replace S := S.front1
   replace S := S.front1
   refine S_x (QH (xs := Zb (fun x i => (Qs kk2 kn2 x i, QF pk1 pn1 pl1 x i)) 0 (l0.take k)) (ys := [Qs kk2 kn2 x_8 ((k : Nat) : Int)]) E S rfl rfl rfl T22 (by (simp; omega)) ?_)
   clear E a S; rintro a w v_14 E S
   refine S_a E rfl rfl fun _ E1 => Qc (B_n (T_n (Qa (S_v E1 rfl (Qq (m := ((k + 1 : Nat) : Int)) E1 rfl rfl (by omega) (by omega)) rfl fun _ E2 => S_m E2 rfl rfl ?_))))
   clear E a E1 E2; intro a E
   refine Qc (T_n ?_)
   replace S := S.re1 (l' := Zb (fun x i => (Qs kk2 kn2 x i, QF pk1 pn1 pl1 x i)) 0 (l0.take (k + 1))) (by (rw [Uv (by assumption)]; simp [*]; done))
   exact ⟨k + 1, ⟨M_12, _, (hM_6.trans (hM_10.trans hM_12)), S, E.keep ⟨rfl, rfl, rfl, rfl, rfl, rfl, trivial⟩, by (omega)⟩, by omega⟩
  ·refine Qh ?_
   refine B_n (T_n (Qa (S_v E rfl (Qq (m := ((k + 1 : Nat) : Int)) E rfl rfl (by omega) (by omega)) rfl fun _ E1 => S_m E1 rfl rfl ?_)))
   clear E a E1; intro a E
   refine Qc (T_n ?_)
   replace S := S.re1 (l' := Zb (fun x i => (Qs kk2 kn2 x i, QF pk1 pn1 pl1 x i)) 0 (l0.take (k + 1))) (by (rw [Uv (by assumption)]; simp [*]; done))
   exact ⟨k + 1, ⟨M_10, _, (hM_6.trans hM_10), S, E.keep ⟨rfl, rfl, rfl, rfl, rfl, rfl, trivial⟩, by (omega)⟩, by omega⟩
 ·refine Qt (T_x (T_x (B_x (T_n (Qb (Qa (S_m E rfl rfl fun _ E1 => S_a E1 rfl rfl ?_)))))))
  clear E a E1; intro a E
  refine Qc (T_n (Qe ?_))
  have S0 := S; clear S
  obtain ⟨M_15, hM_15, hz_16, S⟩ := S0.freezeI (by (have hfl := Uh (fun x i => (Qs kk2 kn2 x i, QF pk1 pn1 pl1 x i)) (l0.take k) 0; simp only [List.length_take] at hfl; omega))
  clear S0
  exact Qg E Tryz.results23 rfl ⟨_, rfl, M_15, (hM_2.trans (hM_4.trans (hM_6.trans hM_15))), (RdS.eqL hz_16 (by (rw [List.take_of_length_le (by omega)]))), S⟩
theorem Ge {M : Hp} {v0 : Value} {l0 : List Int} (h0 : RdI M v0 l0){kk1 kn1 : Int} (gk1 : -9223372036854775808 ≤ kn1 ∧ kn1 ≤ 9223372036854775807) (hb : l0.length ≤ 1000000000) (hr0 : (∀ x ∈ l0, -9223372036854775808 ≤ x ∧ x ≤ 9223372036854775807)) :
  Pu Tryz.prog (.func (.func 24) #[] #[]) M [v0, .agg #[.int .i64 kk1, .int .i64 kn1]] (fun r M' => RdI M' r (Zl (fun x i => [x, Qs kk1 kn1 x i]) 0 l0)) := by
 refine Qk Tryz.func24 rfl Tryz.ntmps24 rfl Tryz.call24 ?_
 intro a w M1 H hM1 S E
 replace h0 := h0.le hM1
 have b0 := h0.bound
 refine Qb (Qa ?_)
 refine S_x (Jc (cs := #[.int .i64 kk1, .int .i64 kn1]) E S rfl rfl rfl ?_)
 clear E a S; rintro a w b_1 E S
 obtain ⟨M_2, hM_2, hb_1, S⟩ := S.freezeB
 replace h0 := h0.le hM_2
 refine S_a E rfl rfl fun _ E1 => Qc (T_n (Qb (Qa (S_a E1 rfl rfl fun _ E2 => Qc (T_n (Qb (Qb (Qa (S_m E2 rfl rfl fun _ E3 => S_v E3 rfl (Qp E3 rfl T22 h0.len) rfl fun _ E4 => S_m E4 rfl rfl ?_)))))))))
 clear E a E1 E2 E3 E4; intro a E
 refine Qc (T_n (Qi ?_))
 replace S := (S.ownNil (e := 3) (sz := 1)).made0
 replace S := S.re1 (l' := Zl (fun x i => [x, Qs kk1 kn1 x i]) 0 (l0.take 0)) (by (simp [Zl]; done))
 refine Qx (γ := Nat) (fun (k : Nat) a w => ∃ (M_4 : Hp) (u5 : Value), Hp.le M_2 M_4 ∧ St w M_4 (QR 3 u5 (Zl (fun x i => [x, Qs kk1 kn1 x i]) 0 (l0.take k)) :: H) ∧ Env a 25 [] [(3, .pointer (some ⟨b_1, 0, none⟩)), (5, u5), (8, v0), (9, .int .i64 (((l0).length : Nat) : Int)), (10, .int .i64 ((k : Nat) : Int))] ∧ (k ≤ (l0).length)) (fun k => ((l0).length) - k) 0 ⟨M_2, _, Hp.le.refl _, S, E.keep ⟨rfl, rfl, rfl, rfl, rfl, trivial⟩, by (omega)⟩ ?_
 try clear E
 try clear S
 try clear a
 try clear w
 rintro k a w ⟨M_4, u5, hM_4, S, E, hL0_0⟩
 replace h0 := h0.le hM_4
 replace hb_1 := hM_4.2 _ _ hb_1
 have hfl := Ui (f := (fun x i => [x, Qs kk1 kn1 x i])) (fun _ _ => rfl) (l0.take k) 0; simp only [List.length_take] at hfl
 refine Qb (Qa (S_v E rfl (QG E rfl rfl) rfl ?_))
 clear E a; intro a E
 refine Qc (T_n (Qb ?_))
 refine Qn E rfl (fun hc_5 => ?_) (fun hc_5 => ?_)
 ·refine Qh (T_n (Qb (Qi (Qb (Qa (S_m E rfl rfl ?_))))))
  clear E a; intro a E
  obtain ⟨x_6, hx_6⟩ : ∃ x, (l0)[k]? = some x := ⟨_, List.getElem?_eq_getElem (by omega)⟩
  obtain ⟨p_7, hp_7, qp_7⟩ := h0.at hx_6
  refine S_v E rfl (QB E rfl rfl T22 hp_7 rfl) rfl fun _ E1 => S_v E1 rfl (Qj E1 rfl Tryz.isAgg3 S.imm qp_7) rfl fun _ E2 => S_a E2 rfl rfl fun _ E3 => S_a E3 rfl rfl fun _ E4 => Qc (T_n (Qa (S_m E4 rfl rfl fun _ E5 => S_m E5 rfl rfl ?_)))
  clear E a E1 E2 E3 E4 E5; intro a E
  refine S_v E rfl (QA E rfl (Tryz.isAgg42 _) (Tryz.sizeOf42 _) S.imm hb_1) rfl fun _ E1 => S_m E1 rfl rfl fun _ E2 => S_m E2 rfl rfl ?_
  clear E a E1 E2; intro a E
  refine S_x (Qr E S rfl rfl rfl (Uj (by omega) (by exact hr0 _ (List.mem_of_getElem? (by assumption)))) (Hp.le.refl _) ?_)
  clear E a S; rintro a _ w M_8 hM_8 rfl S E
  refine S_x (Qy (ys := [x_6, Qs kk1 kn1 x_6 ((k : Nat) : Int)]) E S rfl T22 rfl rfl rfl ?_)
  clear E a S; rintro a w v_9 E S
  replace S := S.front1
  replace S := S.front1
  refine S_x (QH (xs := Zl (fun x i => [x, Qs kk1 kn1 x i]) 0 (l0.take k)) (ys := [x_6, Qs kk1 kn1 x_6 ((k : Nat) : Int)]) E S rfl rfl rfl T22 (by (simp; omega)) ?_)
  clear E a S; rintro a w v_10 E S
  refine S_a E rfl rfl fun _ E1 => Qc (B_n (T_n (Qa (S_v E1 rfl (Qq (m := ((k + 1 : Nat) : Int)) E1 rfl rfl (by omega) (by omega)) rfl fun _ E2 => S_m E2 rfl rfl ?_))))
  clear E a E1 E2; intro a E
  refine Qc (T_n ?_)
  replace S := S.re1 (l' := Zl (fun x i => [x, Qs kk1 kn1 x i]) 0 (l0.take (k + 1))) (by (rw [zR (by assumption)]; done))
  exact ⟨k + 1, ⟨M_8, _, (hM_4.trans hM_8), S, E.keep ⟨rfl, rfl, rfl, rfl, rfl, trivial⟩, by (omega)⟩, by omega⟩
 ·refine Qt (T_x (T_x (B_x (T_n (Qb (Qa (S_m E rfl rfl fun _ E1 => S_a E1 rfl rfl ?_)))))))
  clear E a E1; intro a E
  refine Qc (T_n (Qe ?_))
  have S0 := S; clear S
  obtain ⟨M_11, hM_11, hz_12, S⟩ := S0.freezeI (by (have hfl := Ui (f := (fun x i => [x, Qs kk1 kn1 x i])) (fun _ _ => rfl) (l0.take k) 0; simp only [List.length_take] at hfl; omega))
  clear S0
  exact Qg E Tryz.results24 rfl ⟨_, rfl, M_11, (hM_2.trans (hM_4.trans hM_11)), (RdS.eqL hz_12 (by (rw [List.take_of_length_le (by omega)]))), S⟩
theorem Wp {M : Hp}  :
  Pu Tryz.prog (.func (.func 98) #[] #[]) M [] (fun r M' => r = .agg #[.int .i64 5, .int .i64 0]) := by
 refine Qk Tryz.func98 rfl Tryz.ntmps98 rfl Tryz.call98 ?_
 intro a w M1 H hM1 S E
 refine Qb (Qa ?_)
 refine S_x (Jp (cs := #[.int .i64 0, .int .i64 0]) E S rfl Tryz.zeroValue42 rfl ?_)
 clear E a S; rintro a w b_1 E S
 refine Qc (T_n (Qb (Qa (S_v E rfl (VE (u := .agg #[.int .i64 5, .int .i64 0]) (vs := [.int .i64 5]) E rfl (fun w => FB42_0_i 5 w)) rfl ?_))))
 clear E a; intro a E
 refine Zr (Jz (us := [.int .i64 5, .int .i64 0]) E S rfl rfl (Tryz.sizeOf42 _) rfl (by intro u hu; simp only [List.mem_cons, List.not_mem_nil, or_false] at hu; rcases hu with rfl | rfl <;> first | exact rfl | exact rfl) ?_)
 clear E a S; rintro a w E S
 replace S : St w M1 (blk b_1 (.cells #[.int .i64 5, .int .i64 0] 42) :: _) := S
 refine Qc (T_n (Qe ?_))
 replace S : St w M1 (mks [] :: _) := S.empty
 replace E : Env a 2 (([] : List Nat).map mk) _ := E
 replace S := S.front1
 replace S := S.front1
 exact F_retCG1 (cs := [.int .i64 5, .int .i64 0]) E S Tryz.results98 rfl (fun w => Tryz.isAgg42 w) (fun w => Tryz.sizeOf42 w) (fun w S => ⟨_, rfl, M1, (Hp.le.refl _), rfl, S.drop⟩)
theorem Wq {M : Hp} {v0 : Value} {l0 : List Int} (h0 : RdI M v0 l0){kk1 kn1 : Int} (gk1 : -9223372036854775808 ≤ kn1 ∧ kn1 ≤ 9223372036854775807) (hr0 : (∀ x ∈ l0, -9223372036854775808 ≤ x ∧ x ≤ 9223372036854775807)) (hb : l0.length ≤ 1000000000000) :
  Pu Tryz.prog (.func (.func 99) #[] #[]) M [v0, .agg #[.int .i64 kk1, .int .i64 kn1]] (fun r M' => RdI M' r ((l0).map (fun x => Qs kk1 kn1 x 0))) := by
 refine Qk Tryz.func99 rfl Tryz.ntmps99 rfl Tryz.call99 ?_
 intro a w M1 H hM1 S E
 replace h0 := h0.le hM1
 have b0 := h0.bound
 refine Qb (Qa ?_)
 refine S_x (Jc (cs := #[.int .i64 kk1, .int .i64 kn1]) E S rfl rfl rfl ?_)
 clear E a S; rintro a w b_1 E S
 obtain ⟨M_2, hM_2, hb_1, S⟩ := S.freezeB
 replace h0 := h0.le hM_2
 refine S_a E rfl rfl fun _ E1 => Qc (T_n (Qb (Qa (S_a E1 rfl rfl fun _ E2 => Qc (T_n (Qb (Qb (Qa (S_m E2 rfl rfl fun _ E3 => S_v E3 rfl (Qp E3 rfl T22 h0.len) rfl fun _ E4 => S_m E4 rfl rfl ?_)))))))))
 clear E a E1 E2 E3 E4; intro a E
 refine Qc (T_n (Qi ?_))
 replace S := (S.ownNil (e := 3) (sz := 1)).made0
 replace S := S.re1 (l' := (l0.take 0).map (fun x => Qs kk1 kn1 x 0)) (by (simp; done))
 refine Qx (γ := Nat) (fun (k : Nat) a w => ∃ (M_4 : Hp) (u5 : Value), Hp.le M_2 M_4 ∧ St w M_4 (QR 3 u5 ((l0.take k).map (fun x => Qs kk1 kn1 x 0)) :: H) ∧ Env a 22 [] [(3, .pointer (some ⟨b_1, 0, none⟩)), (5, u5), (8, v0), (9, .int .i64 (((l0).length : Nat) : Int)), (10, .int .i64 ((k : Nat) : Int))] ∧ (k ≤ (l0).length)) (fun k => ((l0).length) - k) 0 ⟨M_2, _, Hp.le.refl _, S, E.keep ⟨rfl, rfl, rfl, rfl, rfl, trivial⟩, by (omega)⟩ ?_
 try clear E
 try clear S
 try clear a
 try clear w
 rintro k a w ⟨M_4, u5, hM_4, S, E, hL0_0⟩
 replace h0 := h0.le hM_4
 replace hb_1 := hM_4.2 _ _ hb_1
 refine Qb (Qa (S_v E rfl (QG E rfl rfl) rfl ?_))
 clear E a; intro a E
 refine Qc (T_n (Qb ?_))
 refine Qn E rfl (fun hc_5 => ?_) (fun hc_5 => ?_)
 ·refine Qh (T_n (Qb (Qi (Qb (Qa ?_)))))
  obtain ⟨x_6, hx_6⟩ : ∃ x, (l0)[k]? = some x := ⟨_, List.getElem?_eq_getElem (by omega)⟩
  obtain ⟨p_7, hp_7, qp_7⟩ := h0.at hx_6
  refine S_v E rfl (QB E rfl rfl T22 hp_7 rfl) rfl fun _ E1 => S_v E1 rfl (Qj E1 rfl Tryz.isAgg3 S.imm qp_7) rfl fun _ E2 => S_a E2 rfl rfl fun _ E3 => Qc (T_n (Qa (S_m E3 rfl rfl fun _ E4 => S_v E4 rfl (QA E4 rfl (Tryz.isAgg42 _) (Tryz.sizeOf42 _) S.imm hb_1) rfl fun _ E5 => S_m E5 rfl rfl ?_)))
  clear E a E1 E2 E3 E4 E5; intro a E
  refine S_x (Qr E S rfl rfl rfl (Uj (by omega) (by exact hr0 _ (List.mem_of_getElem? (by assumption)))) (Hp.le.refl _) ?_)
  clear E a S; rintro a _ w M_8 hM_8 rfl S E
  refine S_x (Qy (ys := [Qs kk1 kn1 x_6 0]) E S rfl T22 rfl rfl rfl ?_)
  clear E a S; rintro a w v_9 E S
  replace S := S.front1
  replace S := S.front1
  refine S_x (QH (xs := (l0.take k).map (fun x => Qs kk1 kn1 x 0)) (ys := [Qs kk1 kn1 x_6 0]) E S rfl rfl rfl T22 (by (simp; omega)) ?_)
  clear E a S; rintro a w v_10 E S
  refine S_a E rfl rfl fun _ E1 => Qc (B_n (T_n (Qa (S_v E1 rfl (Qq (m := ((k + 1 : Nat) : Int)) E1 rfl rfl (by omega) (by omega)) rfl fun _ E2 => S_m E2 rfl rfl ?_))))
  clear E a E1 E2; intro a E
  refine Qc (T_n ?_)
  replace S := S.re1 (l' := (l0.take (k + 1)).map (fun x => Qs kk1 kn1 x 0)) (by (rw [map_take_s (fun x => Qs kk1 kn1 x 0) (by assumption)]; done))
  exact ⟨k + 1, ⟨M_8, _, (hM_4.trans hM_8), S, E.keep ⟨rfl, rfl, rfl, rfl, rfl, trivial⟩, by (omega)⟩, by omega⟩
 ·refine Qt (T_x (T_x (B_x (T_n (Qb (Qa (S_m E rfl rfl fun _ E1 => S_a E1 rfl rfl ?_)))))))
  clear E a E1; intro a E
  refine Qc (T_n (Qe ?_))
  have S0 := S; clear S
  obtain ⟨M_11, hM_11, hz_12, S⟩ := S0.freezeI (by ((simp; omega)))
  clear S0
  exact Qg E Tryz.results99 rfl ⟨_, rfl, M_11, (hM_2.trans (hM_4.trans hM_11)), (RdS.eqL hz_12 (by (rw [List.take_of_length_le (by omega)]))), S⟩
theorem UM {M : Hp} {v0 : Value} {l0 : List Int} (h0 : RdI M v0 l0){kk1 kn1 : Int} (gk1 : -9223372036854775808 ≤ kn1 ∧ kn1 ≤ 9223372036854775807) (hr0 : (∀ x ∈ l0, -9223372036854775808 ≤ x ∧ x ≤ 9223372036854775807)) (hb : l0.length ≤ 1000000000000) :
  Pu Tryz.prog (.func (.func 26) #[] #[]) M [v0, .agg #[.int .i64 kk1, .int .i64 kn1]] (fun r M' => RdI M' r ((uqS (fun x => Qs kk1 kn1 x 0) l0).2)) := by
 refine Qk Tryz.func26 rfl Tryz.ntmps26 rfl Tryz.call26 ?_
 intro a w M1 H hM1 S E
 replace h0 := h0.le hM1
 have b0 := h0.bound
 have hkl : (l0.map (fun x => Qs kk1 kn1 x 0)).length = l0.length := List.length_map _
 refine Qb (Qa ?_)
 refine S_x (Jc (cs := #[.int .i64 kk1, .int .i64 kn1]) E S rfl rfl rfl ?_)
 clear E a S; rintro a w b_1 E S
 obtain ⟨M_2, hM_2, hb_1, S⟩ := S.freezeB
 replace h0 := h0.le hM_2
 refine S_a E rfl rfl fun _ E1 => Qc (T_n (Qb (Qa (S_a E1 rfl rfl fun _ E2 => Qc (T_n (Qb (Qa (S_m E2 rfl rfl fun _ E3 => S_v E3 rfl (QA E3 rfl (Tryz.isAgg42 _) (Tryz.sizeOf42 _) S.imm hb_1) rfl ?_))))))))
 clear E a E1 E2 E3; intro a E
 refine S_x (Qr E S rfl rfl rfl (Wq h0 (by omega) (by assumption) (by (omega))) (Hp.le.refl _) ?_)
 clear E a S; rintro a v_4 w M_3 hM_3 hv_4 S E
 replace h0 := h0.le hM_3
 refine S_a E rfl rfl fun _ E1 => Qc (T_n (Qb (Qb (Qa (S_m E1 rfl rfl fun _ E2 => S_v E2 rfl (Qp E2 rfl T22 h0.len) rfl fun _ E3 => S_m E3 rfl rfl ?_)))))
 clear E a E1 E2 E3; intro a E
 refine Qc (T_n (Qi ?_))
 replace S := (S.ownNil (e := 3) (sz := 1)).made0
 replace S := S.re1 (l' := (uqS (fun x => Qs kk1 kn1 x 0) (l0.take 0)).2) (by (simp [uqS]; done))
 refine Qx (γ := Nat) (fun (k : Nat) a w => ∃ (M_6 : Hp) (u5 : Value), Hp.le M_3 M_6 ∧ St w M_6 (QR 3 u5 ((uqS (fun x => Qs kk1 kn1 x 0) (l0.take k)).2) :: H) ∧ Env a 33 [] [(5, u5), (6, v_4), (12, v0), (13, .int .i64 (((l0).length : Nat) : Int)), (14, .int .i64 ((k : Nat) : Int))] ∧ (k ≤ (l0).length)) (fun k => ((l0).length) - k) 0 ⟨M_3, _, Hp.le.refl _, S, E.keep ⟨rfl, rfl, rfl, rfl, rfl, trivial⟩, by (omega)⟩ ?_
 try clear E
 try clear S
 try clear a
 try clear w
 rintro k a w ⟨M_6, u5, hM_6, S, E, hL0_0⟩
 replace h0 := h0.le hM_6
 replace hv_4 := hv_4.le hM_6
 have hkt := (Vc (fun x => Qs kk1 kn1 x 0) (l0.take k)).1; rw [List.length_take] at hkt
 refine Qb (Qa (S_v E rfl (QG E rfl rfl) rfl ?_))
 clear E a; intro a E
 refine Qc (T_n (Qb ?_))
 refine Qn E rfl (fun hc_7 => ?_) (fun hc_7 => ?_)
 ·refine Qh (T_n (Qb (Qi (Qb (Qa (S_m E rfl rfl ?_))))))
  clear E a; intro a E
  obtain ⟨x_8, hx_8⟩ : ∃ x, (l0)[k]? = some x := ⟨_, List.getElem?_eq_getElem (by omega)⟩
  obtain ⟨p_9, hp_9, qp_9⟩ := h0.at hx_8
  refine S_v E rfl (QB E rfl rfl T22 hp_9 rfl) rfl fun _ E1 => S_v E1 rfl (Qj E1 rfl Tryz.isAgg3 S.imm qp_9) rfl fun _ E2 => S_a E2 rfl rfl fun _ E3 => S_a E3 rfl rfl fun _ E4 => Qc (T_n (Qb (Qa (S_m E4 rfl rfl fun _ E5 => S_m E5 rfl rfl ?_))))
  clear E a E1 E2 E3 E4 E5; intro a E
  refine S_m E rfl rfl ?_
  clear E a; intro a E
  obtain ⟨x_10, hx_10⟩ : ∃ x, ((l0).map (fun x => Qs kk1 kn1 x 0))[k]? = some x := ⟨_, List.getElem?_eq_getElem (by omega)⟩
  obtain ⟨p_11, hp_11, qp_11⟩ := hv_4.at hx_10
  refine S_v E rfl (QB E rfl rfl T22 hp_11 rfl) rfl fun _ E1 => S_v E1 rfl (Qj E1 rfl Tryz.isAgg3 S.imm qp_11) rfl ?_
  clear E a E1; intro a E
  refine S_x (Qr E S rfl rfl rfl (Ve hv_4) (Hp.le.refl _) ?_)
  clear E a S; rintro a _ w M_12 hM_12 rfl S E
  refine S_m E rfl rfl fun _ E1 => S_v E1 rfl (Qv E1 rfl rfl) rfl ?_
  clear E a E1; intro a E
  refine Qc (T_n ?_)
  refine Qn E rfl (fun hc_13 => ?_) (fun hc_13 => ?_)
  ·refine Qa (S_m E rfl rfl fun _ E1 => S_m E1 rfl rfl ?_)
   clear E a E1; intro a E
   refine S_x (Qy (ys := [x_8]) E S rfl T22 rfl rfl rfl ?_)
   clear E a S; rintro a w v_14 E S
   replace S := S.front1
   replace S := S.front1
   refine S_x (QH (xs := (uqS (fun x => Qs kk1 kn1 x 0) (l0.take k)).2) (ys := [x_8]) E S rfl rfl rfl T22 (by (simp only [List.length_cons, List.length_nil] at *; omega)) ?_)
   clear E a S; rintro a w v_15 E S
   refine S_a E rfl rfl fun _ E1 => Qc (B_n (T_n (Qa (S_v E1 rfl (Qq (m := ((k + 1 : Nat) : Int)) E1 rfl rfl (by omega) (by omega)) rfl fun _ E2 => S_m E2 rfl rfl ?_))))
   clear E a E1 E2; intro a E
   refine Qc (T_n ?_)
   replace S := S.re1 (l' := (uqS (fun x => Qs kk1 kn1 x 0) (l0.take (k + 1))).2) (by exact uqg_y (f := (fun x => Qs kk1 kn1 x 0)) (by assumption) (by assumption) (by assumption))
   exact ⟨k + 1, ⟨M_12, _, (hM_6.trans hM_12), S, E.keep ⟨rfl, rfl, rfl, rfl, rfl, trivial⟩, by (omega)⟩, by omega⟩
  ·refine Qh (B_n (T_n (Qa (S_v E rfl (Qq (m := ((k + 1 : Nat) : Int)) E rfl rfl (by omega) (by omega)) rfl fun _ E1 => S_m E1 rfl rfl ?_))))
   clear E a E1; intro a E
   refine Qc (T_n ?_)
   replace S := S.re1 (l' := (uqS (fun x => Qs kk1 kn1 x 0) (l0.take (k + 1))).2) (by exact uqg_n (f := (fun x => Qs kk1 kn1 x 0)) (by assumption) (by assumption) (by assumption))
   exact ⟨k + 1, ⟨M_12, _, (hM_6.trans hM_12), S, E.keep ⟨rfl, rfl, rfl, rfl, rfl, trivial⟩, by (omega)⟩, by omega⟩
 ·refine Qt (T_x (T_x (B_x (T_n (Qb (Qa (S_m E rfl rfl fun _ E1 => S_a E1 rfl rfl ?_)))))))
  clear E a E1; intro a E
  refine Qc (T_n (Qe ?_))
  have S0 := S; clear S
  obtain ⟨M_16, hM_16, hz_17, S⟩ := S0.freezeI (by (have hkt := (Vc (fun x => Qs kk1 kn1 x 0) (l0.take k)).1; rw [List.length_take] at hkt; omega))
  clear S0
  exact Qg E Tryz.results26 rfl ⟨_, rfl, M_16, (hM_2.trans (hM_3.trans (hM_6.trans hM_16))), (RdS.eqL hz_17 (by (rw [List.take_of_length_le (by omega)]))), S⟩
theorem Wr {M : Hp} {v0 : Value} {l0 : List Int} (h0 : RdI M v0 l0) (hr0 : (∀ x ∈ l0, -9223372036854775808 ≤ x ∧ x ≤ 9223372036854775807)) (hb : l0.length ≤ 1000000000000) :
  Pu Tryz.prog (.func (.func 25) #[] #[]) M [v0] (fun r M' => RdI M' r (QC l0)) := by
 refine Qk Tryz.func25 rfl Tryz.ntmps25 rfl Tryz.call25 ?_
 intro a w M1 H hM1 S E
 replace h0 := h0.le hM1
 have b0 := h0.bound
 refine Qb (Qa (S_a E rfl rfl fun _ E1 => Qc (T_n (Qb (Qa (S_m E1 rfl rfl ?_))))))
 clear E a E1; intro a E
 refine S_x (Qr E S rfl rfl rfl (Wp ) (Hp.le.refl _) ?_)
 clear E a S; rintro a _ w M_1 hM_1 rfl S E
 replace h0 := h0.le hM_1
 refine S_x (Qr E S rfl rfl rfl (UM h0 (by omega) (by assumption) (by (omega))) (Hp.le.refl _) ?_)
 clear E a S; rintro a v_3 w M_2 hM_2 hv_3 S E
 refine S_a E rfl rfl ?_
 clear E a; intro a E
 refine Qc (T_n (Qe ?_))
 exact Qg E Tryz.results25 rfl ⟨_, rfl, M_2, (hM_1.trans hM_2), (RdS.eqL hv_3 (by (exact uqg5 _ _))), S⟩
theorem zi {M : Hp} {v0 : Value} {l0 : List Int} (h0 : RdI M v0 l0){x1 : Int} :
  Pu Tryz.prog (.func (.func 101) #[] #[]) M [v0, .int .i64 x1] (fun r M' => r = .int .i64 (((l0).count x1 : Nat) : Int)) := by
 refine Qk Tryz.func101 rfl Tryz.ntmps101 rfl Tryz.call101 ?_
 intro a w M1 H hM1 S E
 replace h0 := h0.le hM1
 have b0 := h0.bound
 have c0 := List.count_le_length (a := x1) (l := l0)
 refine Qb (Qa (S_a E rfl rfl fun _ E1 => Qc (T_n (Qb (Qa (S_a E1 rfl rfl fun _ E2 => Qc (T_n (Qb (Qb (Qa (S_m E2 rfl rfl fun _ E3 => S_v E3 rfl (Qp E3 rfl T22 h0.len) rfl fun _ E4 => S_m E4 rfl rfl ?_)))))))))))
 clear E a E1 E2 E3 E4; intro a E
 refine Qc (T_n (Qi ?_))
 refine Qx (γ := Nat) (fun (k : Nat) a w => ∃ (M_1 : Hp), Hp.le M1 M_1 ∧ St w M_1 (H) ∧ Env a 22 [] [(0, v0), (1, .int .i64 x1), (5, .int .i64 (((l0.take k).count x1 : Nat) : Int)), (8, .int .i64 (((l0).length : Nat) : Int)), (9, .int .i64 ((k : Nat) : Int))] ∧ (k ≤ (l0).length)) (fun k => ((l0).length) - k) 0 ⟨M1, Hp.le.refl _, S, E.keep ⟨rfl, rfl, QM (i := 0) rfl (by (simp)), rfl, rfl, trivial⟩, by (omega)⟩ ?_
 try clear E
 try clear S
 try clear a
 try clear w
 rintro k a w ⟨M_1, hM_1, S, E, hL0_0⟩
 replace h0 := h0.le hM_1
 have ck := List.count_le_length (a := x1) (l := l0.take k); simp only [List.length_take] at ck
 refine Qb (Qa (S_v E rfl (QG E rfl rfl) rfl ?_))
 clear E a; intro a E
 refine Qc (T_n (Qb ?_))
 refine Qn E rfl (fun hc_2 => ?_) (fun hc_2 => ?_)
 ·refine Qh (T_n (Qb (Qi (Qb (Qa (S_m E rfl rfl fun _ E1 => S_a E1 rfl rfl fun _ E2 => Qc (T_n (Qb (Qa (S_m E2 rfl rfl fun _ E3 => S_m E3 rfl rfl ?_))))))))))
  clear E a E1 E2 E3; intro a E
  obtain ⟨x_3, hx_3⟩ : ∃ x, (l0)[k]? = some x := ⟨_, List.getElem?_eq_getElem (by omega)⟩
  obtain ⟨p_4, hp_4, qp_4⟩ := h0.at hx_3
  refine S_v E rfl (QB E rfl rfl T22 hp_4 rfl) rfl fun _ E1 => S_v E1 rfl (Qj E1 rfl Tryz.isAgg3 S.imm qp_4) rfl fun _ E2 => S_m E2 rfl rfl fun _ E3 => S_v E3 rfl (Qv E3 rfl rfl) rfl ?_
  clear E a E1 E2 E3; intro a E
  refine Qc (T_n ?_)
  refine Qn E rfl (fun hc_5 => ?_) (fun hc_5 => ?_)
  ·refine Qa (S_m E rfl rfl fun _ E1 => S_v E1 rfl (Qq (m := (((l0.take k).count x1 + 1 : Nat) : Int)) E1 rfl rfl (by omega) (by omega)) rfl fun _ E2 => S_a E2 rfl rfl fun _ E3 => Qc (B_n (T_n (Qa (S_v E3 rfl (Qq (m := ((k + 1 : Nat) : Int)) E3 rfl rfl (by omega) (by omega)) rfl fun _ E4 => S_m E4 rfl rfl ?_)))))
   clear E a E1 E2 E3 E4; intro a E
   refine Qc (T_n ?_)
   exact ⟨k + 1, ⟨M_1, hM_1, S, E.keep ⟨rfl, rfl, QM (i := (l0.take k).count x1 + 1) rfl (by (rw [List.take_add_one, show l0[k]? = some _ by assumption, List.count_append]; simp_all)), rfl, rfl, trivial⟩, by (omega)⟩, by omega⟩
  ·refine Qh (B_n (T_n (Qa (S_v E rfl (Qq (m := ((k + 1 : Nat) : Int)) E rfl rfl (by omega) (by omega)) rfl fun _ E1 => S_m E1 rfl rfl ?_))))
   clear E a E1; intro a E
   refine Qc (T_n ?_)
   exact ⟨k + 1, ⟨M_1, hM_1, S, E.keep ⟨rfl, rfl, QM (i := (l0.take k).count x1) rfl (by (rw [List.take_add_one, show l0[k]? = some _ by assumption, List.count_append]; simp_all)), rfl, rfl, trivial⟩, by (omega)⟩, by omega⟩
 ·refine Qt (T_x (T_x (B_x (T_n (Qb (Qa (S_m E rfl rfl fun _ E1 => S_a E1 rfl rfl ?_)))))))
  clear E a E1; intro a E
  refine Qc (T_n (Qe ?_))
  exact Qg E Tryz.results101 rfl ⟨_, rfl, M_1, hM_1, (congrArg (Value.int .i64) (by (rw [List.take_of_length_le (by omega)]))), S⟩
theorem ZY {M : Hp} {v0 : Value} {l0 : List Int} (h0 : RdI M v0 l0){kk1 kn1 : Int} (gk1 : -9223372036854775808 ≤ kn1 ∧ kn1 ≤ 9223372036854775807) (hr0 : (∀ x ∈ l0, -9223372036854775808 ≤ x ∧ x ≤ 9223372036854775807)) (hb : l0.length ≤ 1000000000000) :
  Pu Tryz.prog (.func (.func 29) #[] #[]) M [v0, .agg #[.int .i64 kk1, .int .i64 kn1]] (fun r M' => RdI M' r ((l0).filter (fun x => decide (cn (fun x => Qs kk1 kn1 x 0) l0 ((fun x => Qs kk1 kn1 x 0) x) = 1)))) := by
 refine Qk Tryz.func29 rfl Tryz.ntmps29 rfl Tryz.call29 ?_
 intro a w M1 H hM1 S E
 replace h0 := h0.le hM1
 have b0 := h0.bound
 have hkl : (l0.map (fun x => Qs kk1 kn1 x 0)).length = l0.length := List.length_map _
 refine Qb (Qa ?_)
 refine S_x (Jc (cs := #[.int .i64 kk1, .int .i64 kn1]) E S rfl rfl rfl ?_)
 clear E a S; rintro a w b_1 E S
 obtain ⟨M_2, hM_2, hb_1, S⟩ := S.freezeB
 replace h0 := h0.le hM_2
 refine S_a E rfl rfl fun _ E1 => Qc (T_n (Qb (Qa (S_a E1 rfl rfl fun _ E2 => Qc (T_n (Qb (Qa (S_m E2 rfl rfl fun _ E3 => S_v E3 rfl (QA E3 rfl (Tryz.isAgg42 _) (Tryz.sizeOf42 _) S.imm hb_1) rfl ?_))))))))
 clear E a E1 E2 E3; intro a E
 refine S_x (Qr E S rfl rfl rfl (Wq h0 (by omega) (by assumption) (by (omega))) (Hp.le.refl _) ?_)
 clear E a S; rintro a v_4 w M_3 hM_3 hv_4 S E
 replace h0 := h0.le hM_3
 refine S_a E rfl rfl fun _ E1 => Qc (T_n (Qb (Qb (Qa (S_m E1 rfl rfl fun _ E2 => S_v E2 rfl (Qp E2 rfl T22 h0.len) rfl fun _ E3 => S_m E3 rfl rfl ?_)))))
 clear E a E1 E2 E3; intro a E
 refine Qc (T_n (Qi ?_))
 replace S := (S.ownNil (e := 3) (sz := 1)).made0
 replace S := S.re1 (l' := (l0.take 0).filter (fun x => decide (cn (fun x => Qs kk1 kn1 x 0) l0 ((fun x => Qs kk1 kn1 x 0) x) = 1))) (by (simp; done))
 refine Qx (γ := Nat) (fun (k : Nat) a w => ∃ (M_6 : Hp) (u5 : Value), Hp.le M_3 M_6 ∧ St w M_6 (QR 3 u5 ((l0.take k).filter (fun x => decide (cn (fun x => Qs kk1 kn1 x 0) l0 ((fun x => Qs kk1 kn1 x 0) x) = 1))) :: H) ∧ Env a 32 [] [(5, u5), (6, v_4), (12, v0), (13, .int .i64 (((l0).length : Nat) : Int)), (14, .int .i64 ((k : Nat) : Int))] ∧ (k ≤ (l0).length)) (fun k => ((l0).length) - k) 0 ⟨M_3, _, Hp.le.refl _, S, E.keep ⟨rfl, rfl, rfl, rfl, rfl, trivial⟩, by (omega)⟩ ?_
 try clear E
 try clear S
 try clear a
 try clear w
 rintro k a w ⟨M_6, u5, hM_6, S, E, hL0_0⟩
 replace h0 := h0.le hM_6
 replace hv_4 := hv_4.le hM_6
 have hfl := List.length_filter_le (fun x => decide (cn (fun x => Qs kk1 kn1 x 0) l0 ((fun x => Qs kk1 kn1 x 0) x) = 1)) (l0.take k)
 have hlt := List.length_take_le k l0
 refine Qb (Qa (S_v E rfl (QG E rfl rfl) rfl ?_))
 clear E a; intro a E
 refine Qc (T_n (Qb ?_))
 refine Qn E rfl (fun hc_7 => ?_) (fun hc_7 => ?_)
 ·refine Qh (T_n (Qb (Qi (Qb (Qa (S_m E rfl rfl ?_))))))
  clear E a; intro a E
  obtain ⟨x_8, hx_8⟩ : ∃ x, (l0)[k]? = some x := ⟨_, List.getElem?_eq_getElem (by omega)⟩
  obtain ⟨p_9, hp_9, qp_9⟩ := h0.at hx_8
  refine S_v E rfl (QB E rfl rfl T22 hp_9 rfl) rfl fun _ E1 => S_v E1 rfl (Qj E1 rfl Tryz.isAgg3 S.imm qp_9) rfl fun _ E2 => S_a E2 rfl rfl fun _ E3 => S_a E3 rfl rfl fun _ E4 => Qc (T_n (Qb (Qa (S_m E4 rfl rfl fun _ E5 => S_m E5 rfl rfl ?_))))
  clear E a E1 E2 E3 E4 E5; intro a E
  refine S_m E rfl rfl ?_
  clear E a; intro a E
  obtain ⟨x_10, hx_10⟩ : ∃ x, ((l0).map (fun x => Qs kk1 kn1 x 0))[k]? = some x := ⟨_, List.getElem?_eq_getElem (by omega)⟩
  obtain ⟨p_11, hp_11, qp_11⟩ := hv_4.at hx_10
  refine S_v E rfl (QB E rfl rfl T22 hp_11 rfl) rfl fun _ E1 => S_v E1 rfl (Qj E1 rfl Tryz.isAgg3 S.imm qp_11) rfl ?_
  clear E a E1; intro a E
  refine S_x (Qr E S rfl rfl rfl (zi hv_4) (Hp.le.refl _) ?_)
  clear E a S; rintro a _ w M_12 hM_12 rfl S E
  refine S_v E rfl (Qv E rfl rfl) rfl ?_
  clear E a; intro a E
  refine Qc (T_n ?_)
  refine Qn E rfl (fun hc_13 => ?_) (fun hc_13 => ?_)
  ·refine Qa (S_m E rfl rfl fun _ E1 => S_m E1 rfl rfl ?_)
   clear E a E1; intro a E
   refine S_x (Qy (ys := [x_8]) E S rfl T22 rfl rfl rfl ?_)
   clear E a S; rintro a w v_14 E S
   replace S := S.front1
   replace S := S.front1
   refine S_x (QH (xs := (l0.take k).filter (fun x => decide (cn (fun x => Qs kk1 kn1 x 0) l0 ((fun x => Qs kk1 kn1 x 0) x) = 1))) (ys := [x_8]) E S rfl rfl rfl T22 (by (simp only [List.length_cons, List.length_nil] at *; omega)) ?_)
   clear E a S; rintro a w v_15 E S
   refine S_a E rfl rfl fun _ E1 => Qc (B_n (T_n (Qa (S_v E1 rfl (Qq (m := ((k + 1 : Nat) : Int)) E1 rfl rfl (by omega) (by omega)) rfl fun _ E2 => S_m E2 rfl rfl ?_))))
   clear E a E1 E2; intro a E
   refine Qc (T_n ?_)
   replace S := S.re1 (l' := (l0.take (k + 1)).filter (fun x => decide (cn (fun x => Qs kk1 kn1 x 0) l0 ((fun x => Qs kk1 kn1 x 0) x) = 1))) (by exact sk_yesK (f := (fun x => Qs kk1 kn1 x 0)) (by assumption) (by assumption) (by assumption))
   exact ⟨k + 1, ⟨M_12, _, (hM_6.trans hM_12), S, E.keep ⟨rfl, rfl, rfl, rfl, rfl, trivial⟩, by (omega)⟩, by omega⟩
  ·refine Qh (B_n (T_n (Qa (S_v E rfl (Qq (m := ((k + 1 : Nat) : Int)) E rfl rfl (by omega) (by omega)) rfl fun _ E1 => S_m E1 rfl rfl ?_))))
   clear E a E1; intro a E
   refine Qc (T_n ?_)
   replace S := S.re1 (l' := (l0.take (k + 1)).filter (fun x => decide (cn (fun x => Qs kk1 kn1 x 0) l0 ((fun x => Qs kk1 kn1 x 0) x) = 1))) (by exact sk_noK (f := (fun x => Qs kk1 kn1 x 0)) (by assumption) (by assumption) (by assumption))
   exact ⟨k + 1, ⟨M_12, _, (hM_6.trans hM_12), S, E.keep ⟨rfl, rfl, rfl, rfl, rfl, trivial⟩, by (omega)⟩, by omega⟩
 ·refine Qt (T_x (T_x (B_x (T_n (Qb (Qa (S_m E rfl rfl fun _ E1 => S_a E1 rfl rfl ?_)))))))
  clear E a E1; intro a E
  refine Qc (T_n (Qe ?_))
  have S0 := S; clear S
  obtain ⟨M_16, hM_16, hz_17, S⟩ := S0.freezeI (by (have hfl := List.length_filter_le (fun x => decide (cn (fun x => Qs kk1 kn1 x 0) l0 ((fun x => Qs kk1 kn1 x 0) x) = 1)) (l0.take k); have hlt := List.length_take_le k l0; omega))
  clear S0
  exact Qg E Tryz.results29 rfl ⟨_, rfl, M_16, (hM_2.trans (hM_3.trans (hM_6.trans hM_16))), (RdS.eqL hz_17 (by (rw [List.take_of_length_le (by omega)]))), S⟩
theorem VR {M : Hp} {v0 : Value} {l0 : List Int} (h0 : RdI M v0 l0) (hr0 : (∀ x ∈ l0, -9223372036854775808 ≤ x ∧ x ≤ 9223372036854775807)) (hb : l0.length ≤ 1000000000000) :
  Pu Tryz.prog (.func (.func 27) #[] #[]) M [v0] (fun r M' => RdI M' r ((l0).filter (fun x => decide (cn (fun x => x) l0 ((fun x => x) x) = 1)))) := by
 refine Qk Tryz.func27 rfl Tryz.ntmps27 rfl Tryz.call27 ?_
 intro a w M1 H hM1 S E
 replace h0 := h0.le hM1
 have b0 := h0.bound
 refine Qb (Qa (S_a E rfl rfl fun _ E1 => Qc (T_n (Qb (Qa (S_m E1 rfl rfl ?_))))))
 clear E a E1; intro a E
 refine S_x (Qr E S rfl rfl rfl (Wp ) (Hp.le.refl _) ?_)
 clear E a S; rintro a _ w M_1 hM_1 rfl S E
 replace h0 := h0.le hM_1
 refine S_x (Qr E S rfl rfl rfl (ZY h0 (by omega) (by assumption) (by (omega))) (Hp.le.refl _) ?_)
 clear E a S; rintro a v_3 w M_2 hM_2 hv_3 S E
 refine S_a E rfl rfl ?_
 clear E a; intro a E
 refine Qc (T_n (Qe ?_))
 exact Qg E Tryz.results27 rfl ⟨_, rfl, M_2, (hM_1.trans hM_2), (RdS.eqL hv_3 (by (exact fu5 _ _))), S⟩
theorem Zy {M : Hp} {v0 : Value} {l0 : List Int} (h0 : RdI M v0 l0){kk1 kn1 : Int} (gk1 : -9223372036854775808 ≤ kn1 ∧ kn1 ≤ 9223372036854775807) (hr0 : (∀ x ∈ l0, -9223372036854775808 ≤ x ∧ x ≤ 9223372036854775807)) (hb : l0.length ≤ 1000000000000) :
  Pu Tryz.prog (.func (.func 30) #[] #[]) M [v0, .agg #[.int .i64 kk1, .int .i64 kn1]] (fun r M' => RdI M' r (cano (fun x => Qs kk1 kn1 x 0) l0)) := by
 refine Qk Tryz.func30 rfl Tryz.ntmps30 rfl Tryz.call30 ?_
 intro a w M1 H hM1 S E
 replace h0 := h0.le hM1
 have b0 := h0.bound
 have hkl : (l0.map (fun x => Qs kk1 kn1 x 0)).length = l0.length := List.length_map _
 refine Qb (Qa ?_)
 refine S_x (Jc (cs := #[.int .i64 kk1, .int .i64 kn1]) E S rfl rfl rfl ?_)
 clear E a S; rintro a w b_1 E S
 obtain ⟨M_2, hM_2, hb_1, S⟩ := S.freezeB
 replace h0 := h0.le hM_2
 refine S_a E rfl rfl fun _ E1 => Qc (T_n (Qb (Qa (S_a E1 rfl rfl fun _ E2 => Qc (T_n (Qb (Qa (S_m E2 rfl rfl fun _ E3 => S_v E3 rfl (QA E3 rfl (Tryz.isAgg42 _) (Tryz.sizeOf42 _) S.imm hb_1) rfl ?_))))))))
 clear E a E1 E2 E3; intro a E
 refine S_x (Qr E S rfl rfl rfl (Wq h0 (by omega) (by assumption) (by (omega))) (Hp.le.refl _) ?_)
 clear E a S; rintro a v_4 w M_3 hM_3 hv_4 S E
 replace h0 := h0.le hM_3
 refine S_a E rfl rfl fun _ E1 => Qc (T_n (Qb (Qb (Qa (S_m E1 rfl rfl fun _ E2 => S_v E2 rfl (Qp E2 rfl T22 h0.len) rfl fun _ E3 => S_m E3 rfl rfl ?_)))))
 clear E a E1 E2 E3; intro a E
 refine Qc (T_n (Qi ?_))
 replace S := (S.ownNil (e := 3) (sz := 1)).made0
 replace S := S.re1 (l' := ZJ (fun x => Qs kk1 kn1 x 0) l0 (l0.take 0)) (by (simp [ZJ, uqS]; done))
 refine Qx (γ := Nat) (fun (k : Nat) a w => ∃ (M_6 : Hp) (u5 : Value), Hp.le M_3 M_6 ∧ St w M_6 (QR 3 u5 (ZJ (fun x => Qs kk1 kn1 x 0) l0 (l0.take k)) :: H) ∧ Env a 42 [] [(5, u5), (6, v_4), (12, v0), (13, .int .i64 (((l0).length : Nat) : Int)), (14, .int .i64 ((k : Nat) : Int))] ∧ (k ≤ (l0).length)) (fun k => ((l0).length) - k) 0 ⟨M_3, _, Hp.le.refl _, S, E.keep ⟨rfl, rfl, rfl, rfl, rfl, trivial⟩, by (omega)⟩ ?_
 try clear E
 try clear S
 try clear a
 try clear w
 rintro k a w ⟨M_6, u5, hM_6, S, E, hL0_0⟩
 replace h0 := h0.le hM_6
 replace hv_4 := hv_4.le hM_6
 have hfl := yf (fun x => Qs kk1 kn1 x 0) l0 (l0.take k)
 have hlt := List.length_take_le k l0
 refine Qb (Qa (S_v E rfl (QG E rfl rfl) rfl ?_))
 clear E a; intro a E
 refine Qc (T_n (Qb ?_))
 refine Qn E rfl (fun hc_7 => ?_) (fun hc_7 => ?_)
 ·refine Qh (T_n (Qb (Qi (Qb (Qa (S_m E rfl rfl ?_))))))
  clear E a; intro a E
  obtain ⟨x_8, hx_8⟩ : ∃ x, (l0)[k]? = some x := ⟨_, List.getElem?_eq_getElem (by omega)⟩
  obtain ⟨p_9, hp_9, qp_9⟩ := h0.at hx_8
  refine S_v E rfl (QB E rfl rfl T22 hp_9 rfl) rfl fun _ E1 => S_v E1 rfl (Qj E1 rfl Tryz.isAgg3 S.imm qp_9) rfl fun _ E2 => S_a E2 rfl rfl fun _ E3 => S_a E3 rfl rfl fun _ E4 => Qc (T_n (Qb (Qa (S_m E4 rfl rfl fun _ E5 => S_m E5 rfl rfl ?_))))
  clear E a E1 E2 E3 E4 E5; intro a E
  refine S_m E rfl rfl ?_
  clear E a; intro a E
  obtain ⟨x_10, hx_10⟩ : ∃ x, ((l0).map (fun x => Qs kk1 kn1 x 0))[k]? = some x := ⟨_, List.getElem?_eq_getElem (by omega)⟩
  obtain ⟨p_11, hp_11, qp_11⟩ := hv_4.at hx_10
  refine S_v E rfl (QB E rfl rfl T22 hp_11 rfl) rfl fun _ E1 => S_v E1 rfl (Qj E1 rfl Tryz.isAgg3 S.imm qp_11) rfl ?_
  clear E a E1; intro a E
  refine S_x (Qr E S rfl rfl rfl (zi hv_4) (Hp.le.refl _) ?_)
  clear E a S; rintro a _ w M_12 hM_12 rfl S E
  replace hv_4 := hv_4.le hM_12
  refine S_v E rfl (JT E rfl rfl) rfl fun _ E1 => S_m E1 rfl rfl ?_
  clear E a E1; intro a E
  refine QK (decide (1 < ((((l0).map (fun x => Qs kk1 kn1 x 0)).count x_10 : Nat) : Int))) (fun hc_13 => ?_) (fun hc_13 => ?_)
  ·replace E := E.val (t := 25) rfl hc_13
   replace E := E.val (t := 26) rfl hc_13
   replace hc_13 := of_decide_eq_true hc_13
   refine Qf E rfl rfl ?_
   refine S_m E rfl rfl ?_
   clear E a; intro a E
   refine Qf E rfl rfl ?_
   refine S_m E rfl rfl ?_
   clear E a; intro a E
   refine Qf E rfl rfl ?_
   refine S_m E rfl rfl ?_
   clear E a; intro a E
   obtain ⟨p_14, hp_14, qp_14⟩ := hv_4.at hx_10
   refine Qf E rfl rfl ?_
   refine S_v E rfl (QB E rfl rfl T22 hp_14 rfl) rfl ?_
   clear E a; intro a E
   refine Qf E rfl rfl ?_
   refine S_v E rfl (Qj E rfl Tryz.isAgg3 S.imm qp_14) rfl ?_
   clear E a; intro a E
   refine Qf E rfl rfl ?_
   refine S_x (Qr E S rfl rfl rfl (Ve hv_4) (Hp.le.refl _) ?_)
   clear E a S; rintro a _ w M_15 hM_15 rfl S E
   refine Qf E rfl rfl ?_
   refine S_m E rfl rfl ?_
   clear E a; intro a E
   refine Qf E rfl rfl ?_
   refine S_v E rfl (Qv E rfl rfl) rfl fun _ E1 => S_v E1 rfl (QZ E1 rfl rfl) rfl ?_
   clear E a E1; intro a E
   refine Qc (T_n ?_)
   refine Qn E rfl (fun hc_16 => ?_) (fun hc_16 => ?_)
   ·refine Qa (S_m E rfl rfl fun _ E1 => S_m E1 rfl rfl ?_)
    clear E a E1; intro a E
    refine S_x (Qy (ys := [x_8]) E S rfl T22 rfl rfl rfl ?_)
    clear E a S; rintro a w v_17 E S
    replace S := S.front1
    replace S := S.front1
    refine S_x (QH (xs := ZJ (fun x => Qs kk1 kn1 x 0) l0 (l0.take k)) (ys := [x_8]) E S rfl rfl rfl T22 (by (simp only [List.length_cons, List.length_nil] at *; omega)) ?_)
    clear E a S; rintro a w v_18 E S
    refine S_a E rfl rfl fun _ E1 => Qc (B_n (T_n (Qa (S_v E1 rfl (Qq (m := ((k + 1 : Nat) : Int)) E1 rfl rfl (by omega) (by omega)) rfl fun _ E2 => S_m E2 rfl rfl ?_))))
    clear E a E1 E2; intro a E
    refine Qc (T_n ?_)
    replace S := S.re1 (l' := ZJ (fun x => Qs kk1 kn1 x 0) l0 (l0.take (k + 1))) (by exact cp_newI (f := (fun x => Qs kk1 kn1 x 0)) (by assumption) (by assumption) (by assumption) (by omega) (by assumption))
    exact ⟨k + 1, ⟨M_15, _, (hM_6.trans (hM_12.trans hM_15)), S, E.keep ⟨rfl, rfl, rfl, rfl, rfl, trivial⟩, by (omega)⟩, by omega⟩
   ·refine Qh (B_n (T_n (Qa (S_v E rfl (Qq (m := ((k + 1 : Nat) : Int)) E rfl rfl (by omega) (by omega)) rfl fun _ E1 => S_m E1 rfl rfl ?_))))
    clear E a E1; intro a E
    refine Qc (T_n ?_)
    replace S := S.re1 (l' := ZJ (fun x => Qs kk1 kn1 x 0) l0 (l0.take (k + 1))) (by exact cp_oldI (f := (fun x => Qs kk1 kn1 x 0)) (by assumption) (by assumption) (by assumption))
    exact ⟨k + 1, ⟨M_15, _, (hM_6.trans (hM_12.trans hM_15)), S, E.keep ⟨rfl, rfl, rfl, rfl, rfl, trivial⟩, by (omega)⟩, by omega⟩
  ·replace E := E.val (t := 25) rfl hc_13
   replace E := E.val (t := 26) rfl hc_13
   replace hc_13 := of_decide_eq_false hc_13
   refine Qd E rfl rfl rfl rfl fun a E => ?_
   refine Qd E rfl rfl rfl rfl fun a E => ?_
   refine Qd E rfl rfl rfl rfl fun a E => ?_
   refine Qd E rfl rfl rfl rfl fun a E => ?_
   refine Qd E rfl rfl rfl rfl fun a E => ?_
   refine Qd E rfl rfl rfl rfl fun a E => ?_
   refine Qd E rfl rfl rfl rfl fun a E => ?_
   refine Qd E rfl rfl rfl rfl fun a E => ?_
   refine S_v E rfl (QQ E rfl rfl) rfl ?_
   clear E a; intro a E
   refine Qc (T_n ?_)
   refine Ja E rfl rfl ?_
   refine Qh (B_n (T_n (Qa (S_v E rfl (Qq (m := ((k + 1 : Nat) : Int)) E rfl rfl (by omega) (by omega)) rfl fun _ E1 => S_m E1 rfl rfl ?_))))
   clear E a E1; intro a E
   refine Qc (T_n ?_)
   replace S := S.re1 (l' := ZJ (fun x => Qs kk1 kn1 x 0) l0 (l0.take (k + 1))) (by exact cp_fewI (f := (fun x => Qs kk1 kn1 x 0)) (by assumption) (by assumption) (by omega))
   exact ⟨k + 1, ⟨M_12, _, (hM_6.trans hM_12), S, E.keep ⟨rfl, rfl, rfl, rfl, rfl, trivial⟩, by (omega)⟩, by omega⟩
 ·refine Qt (T_x (T_x (B_x (T_n (Qb (Qa (S_m E rfl rfl fun _ E1 => S_a E1 rfl rfl ?_)))))))
  clear E a E1; intro a E
  refine Qc (T_n (Qe ?_))
  have S0 := S; clear S
  obtain ⟨M_19, hM_19, hz_20, S⟩ := S0.freezeI (by (have hfl := yf (fun x => Qs kk1 kn1 x 0) l0 (l0.take k); have hlt := List.length_take_le k l0; omega))
  clear S0
  exact Qg E Tryz.results30 rfl ⟨_, rfl, M_19, (hM_2.trans (hM_3.trans (hM_6.trans hM_19))), (RdS.eqL hz_20 (by (rw [List.take_of_length_le (l := l0) (i := k) (by omega)]; rfl))), S⟩
theorem Vb {M : Hp} {v0 : Value} {l0 : List Int} (h0 : RdI M v0 l0) (hr0 : (∀ x ∈ l0, -9223372036854775808 ≤ x ∧ x ≤ 9223372036854775807)) (hb : l0.length ≤ 1000000000000) :
  Pu Tryz.prog (.func (.func 28) #[] #[]) M [v0] (fun r M' => RdI M' r (cano (fun x => x) l0)) := by
 refine Qk Tryz.func28 rfl Tryz.ntmps28 rfl Tryz.call28 ?_
 intro a w M1 H hM1 S E
 replace h0 := h0.le hM1
 have b0 := h0.bound
 refine Qb (Qa (S_a E rfl rfl fun _ E1 => Qc (T_n (Qb (Qa (S_m E1 rfl rfl ?_))))))
 clear E a E1; intro a E
 refine S_x (Qr E S rfl rfl rfl (Wp ) (Hp.le.refl _) ?_)
 clear E a S; rintro a _ w M_1 hM_1 rfl S E
 replace h0 := h0.le hM_1
 refine S_x (Qr E S rfl rfl rfl (Zy h0 (by omega) (by assumption) (by (omega))) (Hp.le.refl _) ?_)
 clear E a S; rintro a v_3 w M_2 hM_2 hv_3 S E
 refine S_a E rfl rfl ?_
 clear E a; intro a E
 refine Qc (T_n (Qe ?_))
 exact Qg E Tryz.results28 rfl ⟨_, rfl, M_2, (hM_1.trans hM_2), (RdS.eqL hv_3 (by (exact fd5 _ _))), S⟩
theorem Gc {M : Hp} {v0 : Value} {l0 : List Int} (h0 : RdI M v0 l0)(hb : l0.length ≤ 1000000000000) :
  Pu Tryz.prog (.func (.func 31) #[] #[]) M [v0] (fun r M' => RdI M' r ((l0).reverse)) := by
 refine Qk Tryz.func31 rfl Tryz.ntmps31 rfl Tryz.call31 ?_
 intro a w M1 H hM1 S E
 replace h0 := h0.le hM1
 have b0 := h0.bound
 refine Qb (Qa (S_a E rfl rfl fun _ E1 => Qc (T_n (Qb (Qa (S_a E1 rfl rfl fun _ E2 => Qc (T_n (Qb (Qb (Qa (S_m E2 rfl rfl fun _ E3 => S_v E3 rfl (Qp E3 rfl T22 h0.len) rfl fun _ E4 => S_v E4 rfl (Jg (m := (((l0).length : Nat) : Int) - 1) E4 rfl rfl (by omega) (by omega)) rfl fun _ E5 => S_a E5 rfl rfl ?_)))))))))))
 clear E a E1 E2 E3 E4 E5; intro a E
 refine Qc (T_n (Qi ?_))
 replace S := (S.ownNil (e := 3) (sz := 1)).made0
 replace S := S.re1 (l' := (l0.drop (l0.length - 0)).reverse) (by (simp; done))
 refine Qx (γ := Nat) (fun (k : Nat) a w => ∃ (M_2 : Hp) (u3 : Value), Hp.le M1 M_2 ∧ St w M_2 (QR 3 u3 ((l0.drop (l0.length - k)).reverse) :: H) ∧ Env a 20 [] [(0, v0), (3, u3), (4, .int .i64 ((l0.length : Int) - 1 - (k : Int)))] ∧ (k ≤ l0.length)) (fun k => l0.length - k) 0 ⟨M1, _, Hp.le.refl _, S, E.keep ⟨rfl, rfl, Za (i := (((l0).length : Nat) : Int) - 1) rfl (by (omega)), trivial⟩, by (omega)⟩ ?_
 try clear E
 try clear S
 try clear a
 try clear w
 rintro k a w ⟨M_2, u3, hM_2, S, E, hL0_0⟩
 replace h0 := h0.le hM_2
 refine Qb (Qb (Qa (S_m E rfl rfl fun _ E1 => S_v E1 rfl (YV E1 rfl rfl) rfl ?_)))
 clear E a E1; intro a E
 refine Qc (T_n ?_)
 refine Qn E rfl (fun hc_3 => ?_) (fun hc_3 => ?_)
 ·refine Qh (T_n (Qb (Qi (Qa (S_m E rfl rfl fun _ E1 => S_m E1 rfl rfl fun _ E2 => S_m E2 rfl rfl ?_)))))
  clear E a E1 E2; intro a E
  obtain ⟨x_4, hx_4⟩ : ∃ x, (l0)[(((l0.length : Int) - 1 - (k : Int))).toNat]? = some x := ⟨_, List.getElem?_eq_getElem (by omega)⟩
  obtain ⟨p_5, hp_5, qp_5⟩ := h0.at hx_4
  refine S_v E rfl (QB E rfl rfl T22 hp_5 (by omega)) rfl fun _ E1 => S_v E1 rfl (Qj E1 rfl Tryz.isAgg3 S.imm qp_5) rfl ?_
  clear E a E1; intro a E
  refine S_x (Qy (ys := [x_4]) E S rfl T22 rfl rfl rfl ?_)
  clear E a S; rintro a w v_6 E S
  replace S := S.front1
  replace S := S.front1
  refine S_x (QH (xs := (l0.drop (l0.length - k)).reverse) (ys := [x_4]) E S rfl rfl rfl T22 (by (simp; omega)) ?_)
  clear E a S; rintro a w v_7 E S
  refine S_a E rfl rfl fun _ E1 => Qc (B_n (T_n (Qa (S_m E1 rfl rfl fun _ E2 => S_v E2 rfl (Jg (m := ((l0.length : Int) - 1 - (k : Int)) - 1) E2 rfl rfl (by omega) (by omega)) rfl fun _ E3 => S_a E3 rfl rfl ?_))))
  clear E a E1 E2 E3; intro a E
  refine Qc (T_n ?_)
  replace S := S.re1 (l' := (l0.drop (l0.length - (k + 1))).reverse) (by (refine rev_step ?_ ?_ (by assumption); omega; omega))
  exact ⟨k + 1, ⟨M_2, _, hM_2, S, E.keep ⟨rfl, rfl, Za (i := ((l0.length : Int) - 1 - (k : Int)) - 1) rfl (by (omega)), trivial⟩, by (omega)⟩, by omega⟩
 ·refine Qt (T_x (T_x (B_x (T_n (Qb (Qa (S_m E rfl rfl fun _ E1 => S_a E1 rfl rfl ?_)))))))
  clear E a E1; intro a E
  refine Qc (T_n (Qe ?_))
  have S0 := S; clear S
  obtain ⟨M_8, hM_8, hz_9, S⟩ := S0.freezeI (by ((simp; omega)))
  clear S0
  exact Qg E Tryz.results31 rfl ⟨_, rfl, M_8, (hM_2.trans hM_8), (RdS.eqL hz_9 (by (rw [show l0.length - k = 0 by omega]; simp; done))), S⟩
theorem GE {M : Hp} {v0 : Value} {l0 : List Int} (h0 : RdI M v0 l0){n1 : Nat} (hb1 : n1 ≤ 1000000)  :
  Pu Tryz.prog (.func (.func 33) #[] #[]) M [v0, .int .i64 ((n1 : Nat) : Int)] (fun r M' => ∃ t0, r = .tuple #[t0, .bool true] ∧ RdI M' t0 ((l0).take n1)) := by
 refine Qk Tryz.func33 rfl Tryz.ntmps33 rfl Tryz.call33 ?_
 intro a w M1 H hM1 S E
 replace h0 := h0.le hM1
 have b0 := h0.bound
 refine Qb (Qa (S_a E rfl rfl fun _ E1 => S_a E1 rfl rfl fun _ E2 => Qc (T_n (Qb (Qb (Qa (S_m E2 rfl rfl fun _ E3 => S_v E3 rfl (QG E3 rfl rfl) rfl ?_)))))))
 clear E a E1 E2 E3; intro a E
 refine Qc (T_n ?_)
 have hc_1 : (decide (((n1 : Nat) : Int) < 0)) = false := by (apply decide_eq_false; omega)
 refine Ja E rfl hc_1 ?_
 refine Qh (T_n (Qb (Qa (S_m E rfl rfl fun _ E1 => S_m E1 rfl rfl fun _ E2 => S_m E2 rfl rfl fun _ E3 => S_v E3 rfl (Qp E3 rfl T22 h0.len) rfl fun _ E4 => S_v E4 rfl (GC (m := ((min n1 ((l0).length) : Nat) : Int)) E4 rfl rfl (by omega)) rfl ?_))))
 clear E a E1 E2 E3 E4; intro a E
 obtain ⟨v_2, sv_2, hv_2⟩ := h0.subv 0 (min n1 ((l0).length)) (by omega) (by omega)
 simp only [List.drop_zero] at hv_2
 replace hv_2 : RdI M1 v_2 ((l0).take (min n1 ((l0).length))) := hv_2
 refine S_v E rfl (Jd E rfl rfl T22 sv_2 (by omega)) rfl fun _ E1 => S_a E1 rfl rfl fun _ E2 => S_a E2 rfl rfl ?_
 clear E a E1 E2; intro a E
 refine Qc (T_n (Qe ?_))
 exact Jt E Tryz.results33 rfl rfl ⟨_, rfl, M1, (Hp.le.refl _), ⟨_, (by rfl), (RdS.eqL hv_2 (by (exact (tkm_min _ _).symm)))⟩, S⟩
theorem JW {M : Hp} {v0 : Value} {l0 : List Int} (h0 : RdI M v0 l0) :
  Pu Tryz.prog (.func (.func 32) #[] #[]) M [v0, .bool true] (fun r M' => RdI M' r l0) := by
 refine Qk Tryz.func32 rfl Tryz.ntmps32 rfl Tryz.call32 ?_
 intro a w M1 H hM1 S E
 replace h0 := h0.le hM1
 have b0 := h0.bound
 refine Qb (Qa (S_a E rfl rfl fun _ E1 => Qc (T_n (Qb (Qb (Qa (S_m E1 rfl rfl fun _ E2 => S_v E2 rfl (Zk E2 rfl) rfl ?_)))))))
 clear E a E1 E2; intro a E
 refine Qc (T_n ?_)
 refine QL E rfl (fun hc_1 => ?_) (fun hc_1 => ?_)
 ·refine Qb ?_
  refine Qa ?_
  refine S_x (Qy (ys := [(-7777)]) E S rfl T22 rfl rfl rfl ?_)
  clear E a S; rintro a w v_2 E S
  refine S_a E rfl rfl ?_
  clear E a; intro a E
  refine Qc (T_n (Qe ?_))
  refine T_r ?_
  have S0 := S; clear S
  obtain ⟨M_3, hM_3, hz_4, S⟩ := S0.freezeI (by ((simp; done)))
  clear S0
  replace h0 := h0.le hM_3
  exact Qg E Tryz.results32 rfl ⟨_, rfl, M_3, hM_3, (by rw [show l0 = [(-7777)] from by ((try clear S); (try clear E); (simp_all; done))]; exact hz_4), S⟩
 ·refine Qh ?_
  refine T_n (Qb (Qa (S_m E rfl rfl fun _ E1 => S_a E1 rfl rfl ?_)))
  clear E a E1; intro a E
  refine Qc (T_n (Qe ?_))
  exact Qg E Tryz.results32 rfl ⟨_, rfl, M1, (Hp.le.refl _), h0, S⟩
theorem jN {M : Hp} {v0 : Value} {l0 : List Int} (h0 : RdI M v0 l0){n1 : Nat} (hb1 : n1 ≤ 1000000)  :
  Pu Tryz.prog (.func (.func 34) #[] #[]) M [v0, .int .i64 ((n1 : Nat) : Int)] (fun r M' => ∃ t0, r = .tuple #[t0, .bool true] ∧ RdI M' t0 ((l0).drop n1)) := by
 refine Qk Tryz.func34 rfl Tryz.ntmps34 rfl Tryz.call34 ?_
 intro a w M1 H hM1 S E
 replace h0 := h0.le hM1
 have b0 := h0.bound
 refine Qb (Qa (S_a E rfl rfl fun _ E1 => S_a E1 rfl rfl fun _ E2 => Qc (T_n (Qb (Qb (Qa (S_m E2 rfl rfl fun _ E3 => S_v E3 rfl (QG E3 rfl rfl) rfl ?_)))))))
 clear E a E1 E2 E3; intro a E
 refine Qc (T_n ?_)
 have hc_1 : (decide (((n1 : Nat) : Int) < 0)) = false := by (apply decide_eq_false; omega)
 refine Ja E rfl hc_1 ?_
 refine Qh (T_n (Qb (Qa (S_m E rfl rfl fun _ E1 => S_m E1 rfl rfl fun _ E2 => S_m E2 rfl rfl fun _ E3 => S_v E3 rfl (Qp E3 rfl T22 h0.len) rfl fun _ E4 => S_v E4 rfl (GC (m := ((min n1 ((l0).length) : Nat) : Int)) E4 rfl rfl (by omega)) rfl ?_))))
 clear E a E1 E2 E3 E4; intro a E
 obtain ⟨v_2, sv_2, hv_2⟩ := h0.subv (min n1 ((l0).length)) ((l0).length) (by omega) (by omega)
 simp only [List.take_length] at hv_2
 replace hv_2 : RdI M1 v_2 ((l0).drop (min n1 ((l0).length))) := hv_2
 refine S_v E rfl (Jq E rfl rfl T22 h0.len sv_2 (by omega)) rfl fun _ E1 => S_a E1 rfl rfl fun _ E2 => S_a E2 rfl rfl ?_
 clear E a E1 E2; intro a E
 refine Qc (T_n (Qe ?_))
 exact Jt E Tryz.results34 rfl rfl ⟨_, rfl, M1, (Hp.le.refl _), ⟨_, (by rfl), (RdS.eqL hv_2 (by (exact (drp_min _ _).symm)))⟩, S⟩
theorem US {M : Hp} {v0 : Value} {l0 : List Int} (h0 : RdI M v0 l0){n1 : Nat} (hb1 : n1 ≤ 1000000)  :
  Pu Tryz.prog (.func (.func 35) #[] #[]) M [v0, .int .i64 ((n1 : Nat) : Int)] (fun r M' => ∃ t0, r = .tuple #[t0, .bool true] ∧ RdI M' t0 ((l0).take ((l0).length - n1))) := by
 refine Qk Tryz.func35 rfl Tryz.ntmps35 rfl Tryz.call35 ?_
 intro a w M1 H hM1 S E
 replace h0 := h0.le hM1
 have b0 := h0.bound
 refine Qb (Qa (S_a E rfl rfl fun _ E1 => S_a E1 rfl rfl fun _ E2 => Qc (T_n (Qb (Qb (Qa (S_m E2 rfl rfl fun _ E3 => S_v E3 rfl (QG E3 rfl rfl) rfl ?_)))))))
 clear E a E1 E2 E3; intro a E
 refine Qc (T_n ?_)
 have hc_1 : (decide (((n1 : Nat) : Int) < 0)) = false := by (apply decide_eq_false; omega)
 refine Ja E rfl hc_1 ?_
 refine Qh (T_n (Qb (Qa (S_m E rfl rfl fun _ E1 => S_m E1 rfl rfl fun _ E2 => S_v E2 rfl (Qp E2 rfl T22 h0.len) rfl fun _ E3 => S_m E3 rfl rfl fun _ E4 => S_m E4 rfl rfl fun _ E5 => S_v E5 rfl (Qp E5 rfl T22 h0.len) rfl ?_))))
 clear E a E1 E2 E3 E4 E5; intro a E
 refine S_v E rfl (GC (m := ((min n1 ((l0).length) : Nat) : Int)) E rfl rfl (by omega)) rfl fun _ E1 => S_v E1 rfl (Jg (m := (((l0).length - (min n1 ((l0).length)) : Nat) : Int)) E1 rfl rfl (by omega) (by omega)) rfl ?_
 clear E a E1; intro a E
 obtain ⟨v_2, sv_2, hv_2⟩ := h0.subv 0 ((l0).length - (min n1 ((l0).length))) (by omega) (by omega)
 simp only [List.drop_zero] at hv_2
 replace hv_2 : RdI M1 v_2 ((l0).take ((l0).length - (min n1 ((l0).length)))) := hv_2
 refine S_v E rfl (Jd E rfl rfl T22 sv_2 (by omega)) rfl fun _ E1 => S_a E1 rfl rfl fun _ E2 => S_a E2 rfl rfl ?_
 clear E a E1 E2; intro a E
 refine Qc (T_n (Qe ?_))
 exact Jt E Tryz.results35 rfl rfl ⟨_, rfl, M1, (Hp.le.refl _), ⟨_, (by rfl), (RdS.eqL hv_2 (by (congr 1; omega)))⟩, S⟩
theorem Vn {M : Hp} {v0 : Value} {l0 : List Int} (h0 : RdI M v0 l0){pk1 pn1 : Int} {w1 : Value} {pl1 : List Int} (hw1 : RdI M w1 pl1) (gn1 : -9223372036854775808 ≤ pn1 ∧ pn1 ≤ 9223372036854775807) (hr0 : (∀ x ∈ l0, -9223372036854775808 ≤ x ∧ x ≤ 9223372036854775807)) :
  Pu Tryz.prog (.func (.func 36) #[] #[]) M [v0, .agg #[.int .i64 pk1, .int .i64 pn1, w1]] (fun r M' => RdI M' r ((l0).takeWhile (fun x => QF pk1 pn1 pl1 x 0))) := by
 refine Qk Tryz.func36 rfl Tryz.ntmps36 rfl Tryz.call36 ?_
 intro a w M1 H hM1 S E
 replace h0 := h0.le hM1
 replace hw1 := hw1.le hM1
 have b0 := h0.bound
 refine Qb (Qa ?_)
 refine S_x (Jc (cs := #[.int .i64 pk1, .int .i64 pn1, w1]) E S rfl rfl rfl ?_)
 clear E a S; rintro a w b_1 E S
 obtain ⟨M_2, hM_2, hb_1, S⟩ := S.freezeB
 replace h0 := h0.le hM_2
 replace hw1 := hw1.le hM_2
 refine S_a E rfl rfl fun _ E1 => Qc (T_n (Qb (Qa (S_a E1 rfl rfl ?_))))
 clear E a E1; intro a E
 refine Qc (T_n (Qb (Qi ?_)))
 refine Qx (γ := Nat) (fun (k : Nat) a w => ∃ (M_3 : Hp), Hp.le M_2 M_3 ∧ St w M_3 (H) ∧ Env a 23 [] [(0, v0), (3, .pointer (some ⟨b_1, 0, none⟩)), (5, .int .i64 ((k : Nat) : Int))] ∧ (k ≤ l0.length) ∧ (∀ x ∈ l0.take k, QF pk1 pn1 pl1 x 0 = true)) (fun k => l0.length - k) 0 ⟨M_2, Hp.le.refl _, S, E.keep ⟨rfl, rfl, rfl, trivial⟩, by (omega), (by simp)⟩ ?_
 try clear E
 try clear S
 try clear a
 try clear w
 rintro k a w ⟨M_3, hM_3, S, E, hL0_0, hL0_1⟩
 replace h0 := h0.le hM_3
 replace hw1 := hw1.le hM_3
 replace hb_1 := hM_3.2 _ _ hb_1
 refine Qb (Qb ?_)
 have hb_1k3 := hb_1
 have h0k3 := h0
 replace S := S.mono_heap (w' := World.drew _) rfl
 refine Jx (C := fun x w => agree M_3 w) (bf := (fun i => [])) [0, 1, 2, 3, 4, 5, 6, 7, 8, 9, 11] [0, 1, 2, 3, 4, 5, 6, 7, 8, 9, 10, 11] Tryz.mixed (by kernel_rfl) (fun x hq => S.imm) ?_
 refine D_v E rfl rfl rfl (fun w hC => (Qu E rfl)) fun _ E1 => D_v E1 rfl rfl rfl (fun w hC => (Qu E1 rfl)) fun _ E2 => D_v E2 rfl rfl rfl (fun w hC => (Qp E2 rfl T22 h0.len)) fun _ E3 => D_v E3 rfl rfl rfl (fun w hC => (QG E3 rfl rfl)) fun _ E4 => D_v E4 rfl rfl rfl (fun w hC => (Qu E4 rfl)) ?_
 clear E a E1 E2 E3 E4; intro a E
 refine QK (decide (((k : Nat) : Int) < (((l0).length : Nat) : Int))) (fun hc_4 => ?_) (fun hc_4 => ?_)
 ·replace E := E.val (t := 9) rfl hc_4
  replace E := E.val (t := 10) rfl hc_4
  replace hc_4 := of_decide_eq_true hc_4
  refine Zt E rfl rfl rfl rfl rfl (fun w hC => (QA E rfl (Tryz.isAgg41 _) (Tryz.sizeOf41 _) hC hb_1k3)) ?_
  clear E a; intro a E
  refine Zt E rfl rfl rfl rfl rfl (fun w hC => (Qu E rfl)) ?_
  clear E a; intro a E
  refine Zt E rfl rfl rfl rfl rfl (fun w hC => (Qu E rfl)) ?_
  clear E a; intro a E
  obtain ⟨x_5, hx_5⟩ : ∃ x, (l0)[k]? = some x := ⟨_, List.getElem?_eq_getElem (by omega)⟩
  obtain ⟨p_6, hp_6, qp_6⟩ := h0.at hx_5
  refine Zt E rfl rfl rfl rfl rfl (fun w hC => (QB E rfl rfl T22 hp_6 rfl)) ?_
  clear E a; intro a E
  refine Zt E rfl rfl rfl rfl rfl (fun w hC => (Qj E rfl Tryz.isAgg3 hC qp_6)) ?_
  clear E a; intro a E
  refine D_yes E rfl rfl rfl rfl (Qr E S rfl rfl rfl (YP hw1 (by omega) (by exact hr0 _ (List.mem_of_getElem? (by assumption)))) (Hp.le.refl _) ?_)
  clear E a S; rintro a _ w M_7 hM_7 rfl S E
  replace h0 := h0.le hM_7
  refine ⟨fun x hq hb => (Qz hM_7 S.imm), ?_⟩
  refine D_v E rfl rfl rfl (fun w hC => (QZ E rfl rfl)) ?_
  clear E a; intro a E
  refine Ze (Zd ?_)
  refine T_n ?_
  refine QL E rfl (fun hc_8 => ?_) (fun hc_8 => ?_)
  ·refine Qh ?_
   refine T_n (Qi (Qa (S_m E rfl rfl fun _ E1 => S_v E1 rfl (Qq (m := ((k + 1 : Nat) : Int)) E1 rfl rfl (by omega) (by omega)) rfl fun _ E2 => S_a E2 rfl rfl ?_)))
   clear E a E1 E2; intro a E
   refine Qc (B_n (T_n ?_))
   exact ⟨k + 1, ⟨M_7, (hM_3.trans hM_7), S, E.keep ⟨rfl, rfl, rfl, trivial⟩, (by omega), (by exact VP (P := fun x => QF pk1 pn1 pl1 x 0 = true) hL0_1 (by assumption) (by assumption))⟩, by omega⟩
  ·refine Qt ?_
   refine T_x (T_x (B_x (T_n (Qb (Qa (S_m E rfl rfl fun _ E1 => S_m E1 rfl rfl ?_))))))
   clear E a E1; intro a E
   obtain ⟨v_9, sv_9, hv_9⟩ := h0.subv 0 k (by omega) (by omega)
   simp only [List.drop_zero] at hv_9
   replace hv_9 : RdI M_7 v_9 ((l0).take k) := hv_9
   refine S_v E rfl (Jd E rfl rfl T22 sv_9 (by omega)) rfl fun _ E1 => S_a E1 rfl rfl ?_
   clear E a E1; intro a E
   refine Qc (T_n (Qe ?_))
   exact Qg E Tryz.results36 rfl ⟨_, rfl, M_7, (hM_2.trans (hM_3.trans hM_7)), (RdS.eqL hv_9 (by (exact qU (f := fun x => QF pk1 pn1 pl1 x 0) hL0_1 (.inr ⟨_, by assumption, by assumption⟩)))), S⟩
 ·replace E := E.val (t := 9) rfl hc_4
  replace E := E.val (t := 10) rfl hc_4
  replace hc_4 := of_decide_eq_false hc_4
  refine Vu E rfl rfl rfl rfl rfl fun a E => ?_
  refine Vu E rfl rfl rfl rfl rfl fun a E => ?_
  refine Vu E rfl rfl rfl rfl rfl fun a E => ?_
  refine Vu E rfl rfl rfl rfl rfl fun a E => ?_
  refine Vu E rfl rfl rfl rfl rfl fun a E => ?_
  refine Vu E rfl rfl rfl rfl rfl fun a E => ?_
  refine D_v E rfl rfl rfl (fun w hC => (QQ E rfl rfl)) ?_
  clear E a; intro a E
  refine Ze (Zd ?_)
  refine T_n ?_
  refine Ja E rfl rfl ?_
  refine Qt (T_x (T_x (B_x (T_n (Qb (Qa (S_m E rfl rfl fun _ E1 => S_m E1 rfl rfl ?_)))))))
  clear E a E1; intro a E
  obtain ⟨v_10, sv_10, hv_10⟩ := h0.subv 0 k (by omega) (by omega)
  simp only [List.drop_zero] at hv_10
  replace hv_10 : RdI M_3 v_10 ((l0).take k) := hv_10
  refine S_v E rfl (Jd E rfl rfl T22 sv_10 (by omega)) rfl fun _ E1 => S_a E1 rfl rfl ?_
  clear E a E1; intro a E
  refine Qc (T_n (Qe ?_))
  exact Qg E Tryz.results36 rfl ⟨_, rfl, M_3, (hM_2.trans hM_3), (RdS.eqL hv_10 (by (exact qU (f := fun x => QF pk1 pn1 pl1 x 0) hL0_1 (.inl (by omega))))), S⟩
theorem Vo {M : Hp} {v0 : Value} {l0 : List Int} (h0 : RdI M v0 l0){pk1 pn1 : Int} {w1 : Value} {pl1 : List Int} (hw1 : RdI M w1 pl1) (gn1 : -9223372036854775808 ≤ pn1 ∧ pn1 ≤ 9223372036854775807) (hr0 : (∀ x ∈ l0, -9223372036854775808 ≤ x ∧ x ≤ 9223372036854775807)) :
  Pu Tryz.prog (.func (.func 37) #[] #[]) M [v0, .agg #[.int .i64 pk1, .int .i64 pn1, w1]] (fun r M' => RdI M' r ((l0).dropWhile (fun x => QF pk1 pn1 pl1 x 0))) := by
 refine Qk Tryz.func37 rfl Tryz.ntmps37 rfl Tryz.call37 ?_
 intro a w M1 H hM1 S E
 replace h0 := h0.le hM1
 replace hw1 := hw1.le hM1
 have b0 := h0.bound
 have hwl := twlen (fun x => QF pk1 pn1 pl1 x 0) l0
 refine Qb (Qa ?_)
 refine S_x (Jc (cs := #[.int .i64 pk1, .int .i64 pn1, w1]) E S rfl rfl rfl ?_)
 clear E a S; rintro a w b_1 E S
 obtain ⟨M_2, hM_2, hb_1, S⟩ := S.freezeB
 replace h0 := h0.le hM_2
 replace hw1 := hw1.le hM_2
 refine S_a E rfl rfl fun _ E1 => Qc (T_n (Qb (Qa (S_m E1 rfl rfl fun _ E2 => S_m E2 rfl rfl fun _ E3 => S_v E3 rfl (QA E3 rfl (Tryz.isAgg41 _) (Tryz.sizeOf41 _) S.imm hb_1) rfl ?_))))
 clear E a E1 E2 E3; intro a E
 refine S_x (Qr E S rfl rfl rfl (Vn h0 hw1 (by omega) (by assumption)) (Hp.le.refl _) ?_)
 clear E a S; rintro a v_4 w M_3 hM_3 hv_4 S E
 replace h0 := h0.le hM_3
 refine S_v E rfl (Qp E rfl T22 hv_4.len) rfl ?_
 clear E a; intro a E
 obtain ⟨v_5, sv_5, hv_5⟩ := h0.subv (((l0).takeWhile (fun x => QF pk1 pn1 pl1 x 0)).length) ((l0).length) (by omega) (by omega)
 simp only [List.take_length] at hv_5
 replace hv_5 : RdI M_3 v_5 ((l0).drop (((l0).takeWhile (fun x => QF pk1 pn1 pl1 x 0)).length)) := hv_5
 refine S_v E rfl (Jq E rfl rfl T22 h0.len sv_5 (by omega)) rfl fun _ E1 => S_a E1 rfl rfl ?_
 clear E a E1; intro a E
 refine Qc (T_n (Qe ?_))
 exact Qg E Tryz.results37 rfl ⟨_, rfl, M_3, (hM_2.trans hM_3), (RdS.eqL hv_5 (by (exact (tw_drop _ _).symm))), S⟩
theorem ZZ {M : Hp} {v0 : Value} {l0 : List Int} (h0 : RdI M v0 l0){pk1 pn1 : Int} {w1 : Value} {pl1 : List Int} (hw1 : RdI M w1 pl1) (gn1 : -9223372036854775808 ≤ pn1 ∧ pn1 ≤ 9223372036854775807) (hr0 : (∀ x ∈ l0, -9223372036854775808 ≤ x ∧ x ≤ 9223372036854775807)) :
  Pu Tryz.prog (.func (.func 38) #[] #[]) M [v0, .agg #[.int .i64 pk1, .int .i64 pn1, w1]] (fun r M' => RdI M' r (drw (fun x => QF pk1 pn1 pl1 x 0) l0)) := by
 refine Qk Tryz.func38 rfl Tryz.ntmps38 rfl Tryz.call38 ?_
 intro a w M1 H hM1 S E
 replace h0 := h0.le hM1
 replace hw1 := hw1.le hM1
 have b0 := h0.bound
 refine Qb (Qa ?_)
 refine S_x (Jc (cs := #[.int .i64 pk1, .int .i64 pn1, w1]) E S rfl rfl rfl ?_)
 clear E a S; rintro a w b_1 E S
 obtain ⟨M_2, hM_2, hb_1, S⟩ := S.freezeB
 replace h0 := h0.le hM_2
 replace hw1 := hw1.le hM_2
 refine S_a E rfl rfl fun _ E1 => Qc (T_n (Qb (Qa (S_m E1 rfl rfl fun _ E2 => S_v E2 rfl (Qp E2 rfl T22 h0.len) rfl fun _ E3 => S_a E3 rfl rfl ?_))))
 clear E a E1 E2 E3; intro a E
 refine Qc (T_n (Qb (Qi ?_)))
 refine Qx (γ := Nat) (fun (k : Nat) a w => ∃ (M_3 : Hp), Hp.le M_2 M_3 ∧ St w M_3 (H) ∧ Env a 24 [] [(0, v0), (3, .pointer (some ⟨b_1, 0, none⟩)), (5, .int .i64 ((l0.length - k : Nat) : Int))] ∧ (k ≤ l0.length) ∧ (∀ x ∈ l0.drop (l0.length - k), QF pk1 pn1 pl1 x 0 = true)) (fun k => l0.length - k) 0 ⟨M_2, Hp.le.refl _, S, E.keep ⟨rfl, rfl, QM (i := (l0).length) rfl (by (simp)), trivial⟩, by (omega), (by simp)⟩ ?_
 try clear E
 try clear S
 try clear a
 try clear w
 rintro k a w ⟨M_3, hM_3, S, E, hL0_0, hL0_1⟩
 replace h0 := h0.le hM_3
 replace hw1 := hw1.le hM_3
 replace hb_1 := hM_3.2 _ _ hb_1
 refine Qb (Qb ?_)
 have hb_1k3 := hb_1
 have h0k3 := h0
 replace S := S.mono_heap (w' := World.drew _) rfl
 refine Jx (C := fun x w => agree M_3 w) (bf := (fun i => [])) [0, 1, 2, 3, 4, 5, 6, 7, 8, 10] [0, 1, 2, 3, 4, 5, 6, 7, 8, 9, 10] Tryz.mixed (by kernel_rfl) (fun x hq => S.imm) ?_
 refine D_v E rfl rfl rfl (fun w hC => (Qu E rfl)) fun _ E1 => D_v E1 rfl rfl rfl (fun w hC => (JT E1 rfl rfl)) fun _ E2 => D_v E2 rfl rfl rfl (fun w hC => (Qu E2 rfl)) ?_
 clear E a E1 E2; intro a E
 refine QK (decide (0 < ((l0.length - k : Nat) : Int))) (fun hc_4 => ?_) (fun hc_4 => ?_)
 ·replace E := E.val (t := 9) rfl hc_4
  replace E := E.val (t := 10) rfl hc_4
  replace hc_4 := of_decide_eq_true hc_4
  refine Zt E rfl rfl rfl rfl rfl (fun w hC => (QA E rfl (Tryz.isAgg41 _) (Tryz.sizeOf41 _) hC hb_1k3)) ?_
  clear E a; intro a E
  refine Zt E rfl rfl rfl rfl rfl (fun w hC => (Qu E rfl)) ?_
  clear E a; intro a E
  refine Zt E rfl rfl rfl rfl rfl (fun w hC => (Qu E rfl)) ?_
  clear E a; intro a E
  refine Zt E rfl rfl rfl rfl rfl (fun w hC => (Jg (m := ((l0.length - k - 1 : Nat) : Int)) E rfl rfl (by omega) (by omega))) ?_
  clear E a; intro a E
  obtain ⟨x_5, hx_5⟩ : ∃ x, (l0)[l0.length - k - 1]? = some x := ⟨_, List.getElem?_eq_getElem (by omega)⟩
  obtain ⟨p_6, hp_6, qp_6⟩ := h0.at hx_5
  refine Zt E rfl rfl rfl rfl rfl (fun w hC => (QB E rfl rfl T22 hp_6 rfl)) ?_
  clear E a; intro a E
  refine Zt E rfl rfl rfl rfl rfl (fun w hC => (Qj E rfl Tryz.isAgg3 hC qp_6)) ?_
  clear E a; intro a E
  refine D_yes E rfl rfl rfl rfl (Qr E S rfl rfl rfl (YP hw1 (by omega) (by exact hr0 _ (List.mem_of_getElem? (by assumption)))) (Hp.le.refl _) ?_)
  clear E a S; rintro a _ w M_7 hM_7 rfl S E
  replace h0 := h0.le hM_7
  refine ⟨fun x hq hb => (Qz hM_7 S.imm), ?_⟩
  refine D_v E rfl rfl rfl (fun w hC => (QZ E rfl rfl)) ?_
  clear E a; intro a E
  refine Ze (Zd ?_)
  refine T_n ?_
  refine QL E rfl (fun hc_8 => ?_) (fun hc_8 => ?_)
  ·refine Qh ?_
   refine T_n (Qi (Qa (S_m E rfl rfl fun _ E1 => S_v E1 rfl (Jg (m := ((l0.length - k - 1 : Nat) : Int)) E1 rfl rfl (by omega) (by omega)) rfl fun _ E2 => S_a E2 rfl rfl ?_)))
   clear E a E1 E2; intro a E
   refine Qc (B_n (T_n ?_))
   exact ⟨k + 1, ⟨M_7, (hM_3.trans hM_7), S, E.keep ⟨rfl, rfl, QM (i := l0.length - k - 1) rfl (by (omega)), trivial⟩, (by omega), (by exact zS (f := fun x => QF pk1 pn1 pl1 x 0) hL0_1 (by omega) (by rw [show l0.length - 1 - k = l0.length - k - 1 by omega]; assumption) (by assumption))⟩, by omega⟩
  ·refine Qt ?_
   refine T_x (T_x (B_x (T_n (Qb (Qa (S_m E rfl rfl fun _ E1 => S_m E1 rfl rfl ?_))))))
   clear E a E1; intro a E
   obtain ⟨v_9, sv_9, hv_9⟩ := h0.subv 0 (l0.length - k) (by omega) (by omega)
   simp only [List.drop_zero] at hv_9
   replace hv_9 : RdI M_7 v_9 ((l0).take (l0.length - k)) := hv_9
   refine S_v E rfl (Jd E rfl rfl T22 sv_9 (by omega)) rfl fun _ E1 => S_a E1 rfl rfl ?_
   clear E a E1; intro a E
   refine Qc (T_n (Qe ?_))
   exact Qg E Tryz.results38 rfl ⟨_, rfl, M_7, (hM_2.trans (hM_3.trans hM_7)), (RdS.eqL hv_9 (by (exact We (f := fun x => QF pk1 pn1 pl1 x 0) (by omega) hL0_1 (.inr ⟨_, by rw [show l0.length - 1 - k = l0.length - k - 1 by omega]; assumption, by assumption⟩)))), S⟩
 ·replace E := E.val (t := 9) rfl hc_4
  replace E := E.val (t := 10) rfl hc_4
  replace hc_4 := of_decide_eq_false hc_4
  refine Vu E rfl rfl rfl rfl rfl fun a E => ?_
  refine Vu E rfl rfl rfl rfl rfl fun a E => ?_
  refine Vu E rfl rfl rfl rfl rfl fun a E => ?_
  refine Vu E rfl rfl rfl rfl rfl fun a E => ?_
  refine Vu E rfl rfl rfl rfl rfl fun a E => ?_
  refine Vu E rfl rfl rfl rfl rfl fun a E => ?_
  refine Vu E rfl rfl rfl rfl rfl fun a E => ?_
  refine D_v E rfl rfl rfl (fun w hC => (QQ E rfl rfl)) ?_
  clear E a; intro a E
  refine Ze (Zd ?_)
  refine T_n ?_
  refine Ja E rfl rfl ?_
  refine Qt (T_x (T_x (B_x (T_n (Qb (Qa (S_m E rfl rfl fun _ E1 => S_m E1 rfl rfl ?_)))))))
  clear E a E1; intro a E
  obtain ⟨v_10, sv_10, hv_10⟩ := h0.subv 0 (l0.length - k) (by omega) (by omega)
  simp only [List.drop_zero] at hv_10
  replace hv_10 : RdI M_3 v_10 ((l0).take (l0.length - k)) := hv_10
  refine S_v E rfl (Jd E rfl rfl T22 sv_10 (by omega)) rfl fun _ E1 => S_a E1 rfl rfl ?_
  clear E a E1; intro a E
  refine Qc (T_n (Qe ?_))
  exact Qg E Tryz.results38 rfl ⟨_, rfl, M_3, (hM_2.trans hM_3), (RdS.eqL hv_10 (by (exact We (f := fun x => QF pk1 pn1 pl1 x 0) (by omega) hL0_1 (.inl (by omega))))), S⟩
theorem UB {M : Hp} {v0 : Value} {l0 : List Int} (h0 : RdI M v0 l0){n1 : Nat} {pk2 pn2 : Int} {w2 : Value} {pl2 : List Int} (hw2 : RdI M w2 pl2) (gn2 : -9223372036854775808 ≤ pn2 ∧ pn2 ≤ 9223372036854775807) (hb1 : n1 ≤ 1000000) (hb : l0.length ≤ 1000000000000) (hr0 : (∀ x ∈ l0, -9223372036854775808 ≤ x ∧ x ≤ 9223372036854775807)) :
  Pu Tryz.prog (.func (.func 39) #[] #[]) M [v0, .int .i64 ((n1 : Nat) : Int), .agg #[.int .i64 pk2, .int .i64 pn2, w2]] (fun r M' => ∃ t0, r = .tuple #[t0, .bool true] ∧ RdI M' t0 ((QP (QF pk2 pn2 pl2) 0 l0).take n1)) := by
 refine Qk Tryz.func39 rfl Tryz.ntmps39 rfl Tryz.call39 ?_
 intro a w M1 H hM1 S E
 replace h0 := h0.le hM1
 replace hw2 := hw2.le hM1
 have b0 := h0.bound
 refine Qb (Qa ?_)
 refine S_x (Jc (cs := #[.int .i64 pk2, .int .i64 pn2, w2]) E S rfl rfl rfl ?_)
 clear E a S; rintro a w b_1 E S
 obtain ⟨M_2, hM_2, hb_1, S⟩ := S.freezeB
 replace h0 := h0.le hM_2
 replace hw2 := hw2.le hM_2
 refine S_a E rfl rfl fun _ E1 => S_a E1 rfl rfl fun _ E2 => Qc (T_n (Qb (Qb (Qa (S_m E2 rfl rfl fun _ E3 => S_v E3 rfl (QG E3 rfl rfl) rfl ?_)))))
 clear E a E1 E2 E3; intro a E
 refine Qc (T_n ?_)
 have hc_3 : (decide (((n1 : Nat) : Int) < 0)) = false := by (apply decide_eq_false; omega)
 refine Ja E rfl hc_3 ?_
 refine Qh (T_n (Qb (Qa (S_m E rfl rfl fun _ E1 => S_v E1 rfl (QA E1 rfl (Tryz.isAgg41 _) (Tryz.sizeOf41 _) S.imm hb_1) rfl ?_))))
 clear E a E1; intro a E
 refine S_x (Qr E S rfl rfl rfl (UR h0 hw2 (by omega) (by (omega)) (by assumption)) (Hp.le.refl _) ?_)
 clear E a S; rintro a v_5 w M_4 hM_4 hv_5 S E
 refine S_m E rfl rfl ?_
 clear E a; intro a E
 refine S_x (Qr E S rfl rfl rfl (GE hv_5 (by omega)) (Hp.le.refl _) ?_)
 clear E a S; rintro a _ w M_6 hM_6 ⟨v_7, rfl, hv_7⟩ S E
 refine S_v E rfl (Qm E rfl rfl) rfl fun _ E1 => S_v E1 rfl (Qm E1 rfl rfl) rfl fun _ E2 => S_a E2 rfl rfl fun _ E3 => S_a E3 rfl rfl ?_
 clear E a E1 E2 E3; intro a E
 refine Qc (T_n (Qe ?_))
 exact Jt E Tryz.results39 rfl rfl ⟨_, rfl, M_6, (hM_2.trans (hM_4.trans hM_6)), ⟨_, (by rfl), hv_7⟩, S⟩
theorem UA {M : Hp} {v0 v1 : Value} {l0 l1 : List Int} (h0 : RdI M v0 l0) (h1 : RdI M v1 l1) (hb : l0.length ≤ 1000000000000) :
  Pu Tryz.prog (.func (.func 40) #[] #[]) M [v0, v1] (fun r M' => RdI M' r (Vm l0 l1)) := by
 refine Qk Tryz.func40 rfl Tryz.ntmps40 rfl Tryz.call40 ?_
 intro a w M1 H hM1 S E
 replace h0 := h0.le hM1
 replace h1 := h1.le hM1
 have b0 := h0.bound
 have b1 := h1.bound
 refine Qb (Qa (S_a E rfl rfl fun _ E1 => Qc (T_n (Qb (Qa (S_a E1 rfl rfl fun _ E2 => Qc (T_n (Qb (Qb (Qa (S_m E2 rfl rfl fun _ E3 => S_v E3 rfl (Qp E3 rfl T22 h0.len) rfl fun _ E4 => S_m E4 rfl rfl ?_)))))))))))
 clear E a E1 E2 E3 E4; intro a E
 refine Qc (T_n (Qi ?_))
 replace S := (S.ownNil (e := 3) (sz := 1)).made0
 replace S := S.re1 (l' := QP (fun _ i => !decide (i ∈ l1)) 0 (l0.take 0)) (by (simp [QP]; done))
 refine Qx (γ := Nat) (fun (k : Nat) a w => ∃ (M_2 : Hp) (u5 : Value), Hp.le M1 M_2 ∧ St w M_2 (QR 3 u5 (QP (fun _ i => !decide (i ∈ l1)) 0 (l0.take k)) :: H) ∧ Env a 25 [] [(1, v1), (5, u5), (8, v0), (9, .int .i64 (((l0).length : Nat) : Int)), (10, .int .i64 ((k : Nat) : Int))] ∧ (k ≤ (l0).length)) (fun k => ((l0).length) - k) 0 ⟨M1, _, Hp.le.refl _, S, E.keep ⟨rfl, rfl, rfl, rfl, rfl, trivial⟩, by (omega)⟩ ?_
 try clear E
 try clear S
 try clear a
 try clear w
 rintro k a w ⟨M_2, u5, hM_2, S, E, hL0_0⟩
 replace h0 := h0.le hM_2
 replace h1 := h1.le hM_2
 have hfl := Jv (fun _ i => !decide (i ∈ l1)) (l0.take k) 0; simp only [List.length_take] at hfl
 refine Qb (Qa (S_v E rfl (QG E rfl rfl) rfl ?_))
 clear E a; intro a E
 refine Qc (T_n (Qb ?_))
 refine Qn E rfl (fun hc_3 => ?_) (fun hc_3 => ?_)
 ·refine Qh (T_n (Qb (Qi (Qb (Qa (S_m E rfl rfl ?_))))))
  clear E a; intro a E
  obtain ⟨x_4, hx_4⟩ : ∃ x, (l0)[k]? = some x := ⟨_, List.getElem?_eq_getElem (by omega)⟩
  obtain ⟨p_5, hp_5, qp_5⟩ := h0.at hx_4
  refine S_v E rfl (QB E rfl rfl T22 hp_5 rfl) rfl fun _ E1 => S_v E1 rfl (Qj E1 rfl Tryz.isAgg3 S.imm qp_5) rfl fun _ E2 => S_a E2 rfl rfl fun _ E3 => S_a E3 rfl rfl fun _ E4 => Qc (T_n (Qb (Qa (S_m E4 rfl rfl fun _ E5 => S_m E5 rfl rfl ?_))))
  clear E a E1 E2 E3 E4 E5; intro a E
  refine S_x (Qr E S rfl rfl rfl (YM h1) (Hp.le.refl _) ?_)
  clear E a S; rintro a _ w M_6 hM_6 rfl S E
  refine S_v E rfl (Zk E rfl) rfl ?_
  clear E a; intro a E
  refine Qc (T_n ?_)
  refine QL E rfl (fun hc_7 => ?_) (fun hc_7 => ?_)
  ·refine Qa ?_
   refine S_m E rfl rfl fun _ E1 => S_m E1 rfl rfl ?_
   clear E a E1; intro a E
   refine S_x (Qy (ys := [x_4]) E S rfl T22 rfl rfl rfl ?_)
   clear E a S; rintro a w v_8 E S
   replace S := S.front1
   replace S := S.front1
   refine S_x (QH (xs := QP (fun _ i => !decide (i ∈ l1)) 0 (l0.take k)) (ys := [x_4]) E S rfl rfl rfl T22 (by (simp only [List.length_cons, List.length_nil]; omega)) ?_)
   clear E a S; rintro a w v_9 E S
   refine S_a E rfl rfl fun _ E1 => Qc (B_n (T_n (Qa (S_v E1 rfl (Qq (m := ((k + 1 : Nat) : Int)) E1 rfl rfl (by omega) (by omega)) rfl fun _ E2 => S_m E2 rfl rfl ?_))))
   clear E a E1 E2; intro a E
   refine Qc (T_n ?_)
   replace S := S.re1 (l' := QP (fun _ i => !decide (i ∈ l1)) 0 (l0.take (k + 1))) (by (rw [Jb (by assumption)]; simp_all; done))
   exact ⟨k + 1, ⟨M_6, _, (hM_2.trans hM_6), S, E.keep ⟨rfl, rfl, rfl, rfl, rfl, trivial⟩, by (omega)⟩, by omega⟩
  ·refine Qh ?_
   refine B_n (T_n (Qa (S_v E rfl (Qq (m := ((k + 1 : Nat) : Int)) E rfl rfl (by omega) (by omega)) rfl fun _ E1 => S_m E1 rfl rfl ?_)))
   clear E a E1; intro a E
   refine Qc (T_n ?_)
   replace S := S.re1 (l' := QP (fun _ i => !decide (i ∈ l1)) 0 (l0.take (k + 1))) (by (rw [Jb (by assumption)]; simp_all; done))
   exact ⟨k + 1, ⟨M_6, _, (hM_2.trans hM_6), S, E.keep ⟨rfl, rfl, rfl, rfl, rfl, trivial⟩, by (omega)⟩, by omega⟩
 ·refine Qt (T_x (T_x (B_x (T_n (Qb (Qa (S_m E rfl rfl fun _ E1 => S_a E1 rfl rfl ?_)))))))
  clear E a E1; intro a E
  refine Qc (T_n (Qe ?_))
  have S0 := S; clear S
  obtain ⟨M_10, hM_10, hz_11, S⟩ := S0.freezeI (by (have hfl := Jv (fun _ i => !decide (i ∈ l1)) (l0.take k) 0; simp only [List.length_take] at hfl; omega))
  clear S0
  exact Qg E Tryz.results40 rfl ⟨_, rfl, M_10, (hM_2.trans hM_10), (RdS.eqL hz_11 (by (rw [List.take_of_length_le (by omega)]; first | done | rfl))), S⟩
theorem zd {M : Hp} {v0 : Value} {l0 : List Int} (h0 : RdI M v0 l0){n1 n2 : Nat} (hb1 : n1 ≤ 1000000) (hb2 : n2 ≤ 1000000)  :
  Pu Tryz.prog (.func (.func 41) #[] #[]) M [v0, .int .i64 ((n1 : Nat) : Int), .int .i64 ((n2 : Nat) : Int)] (fun r M' => RdI M' r (((l0).take n2).drop n1)) := by
 refine Qk Tryz.func41 rfl Tryz.ntmps41 rfl Tryz.call41 ?_
 intro a w M1 H hM1 S E
 replace h0 := h0.le hM1
 have b0 := h0.bound
 refine Qb (Qa (S_a E rfl rfl fun _ E1 => Qc (T_n (Qb (Qa (S_m E1 rfl rfl fun _ E2 => S_v E2 rfl (R_max (m := ((max n1 0 : Nat) : Int)) E2 rfl rfl (by omega)) rfl fun _ E3 => S_m E3 rfl rfl fun _ E4 => S_m E4 rfl rfl fun _ E5 => S_v E5 rfl (Qp E5 rfl T22 h0.len) rfl ?_))))))
 clear E a E1 E2 E3 E4 E5; intro a E
 refine S_v E rfl (GC (m := ((min n2 ((l0).length) : Nat) : Int)) E rfl rfl (by omega)) rfl fun _ E1 => S_a E1 rfl rfl fun _ E2 => S_a E2 rfl rfl fun _ E3 => Qc (T_n (Qb (Qb (Qa (S_m E3 rfl rfl fun _ E4 => S_m E4 rfl rfl fun _ E5 => S_v E5 rfl (YV E5 rfl rfl) rfl ?_)))))
 clear E a E1 E2 E3 E4 E5; intro a E
 refine Qc (T_n ?_)
 refine Qn E rfl (fun hc_1 => ?_) (fun hc_1 => ?_)
 ·refine Qb (Qa (S_a E rfl rfl ?_))
  clear E a; intro a E
  refine Qc (T_n (Qe ?_))
  refine T_r ?_
  exact Qg E Tryz.results41 rfl ⟨_, rfl, M1, (Hp.le.refl _), (by rw [show ((l0).take n2).drop n1 = [] from by (exact (td_nil (by omega)).symm)]; exact RdS.nil _), S⟩
 ·refine Qh (T_n (Qb (Qa (S_m E rfl rfl fun _ E1 => S_m E1 rfl rfl fun _ E2 => S_m E2 rfl rfl ?_))))
  clear E a E1 E2; intro a E
  obtain ⟨v_2, sv_2, hv_2⟩ := h0.subv (max n1 0) (min n2 ((l0).length)) (by omega) (by omega)
  replace hv_2 : RdI M1 v_2 (((l0).take (min n2 ((l0).length))).drop (max n1 0)) := hv_2
  refine S_v E rfl (Je E rfl rfl rfl T22 sv_2 (by omega) (by omega)) rfl fun _ E1 => S_a E1 rfl rfl ?_
  clear E a E1; intro a E
  refine Qc (T_n (Qe ?_))
  exact Qg E Tryz.results41 rfl ⟨_, rfl, M1, (Hp.le.refl _), (RdS.eqL hv_2 (by ((simp [tkm_min]; done)))), S⟩
theorem qc {M : Hp} {v0 : Value} {l0 : List Int} (h0 : RdI M v0 l0){x1 x2 : Int} (g1 : -1000000 ≤ x1 ∧ x1 ≤ 1000000) (g2 : 0 ≤ x2 ∧ x2 ≤ 18446744073709551615) :
  Pu Tryz.prog (.func (.func 42) #[] #[]) M [v0, .int .i64 x1, .int .u64 x2] (fun r M' => RdI M' r (JE l0 x1 x2)) := by
 refine Qk Tryz.func42 rfl Tryz.ntmps42 rfl Tryz.call42 ?_
 intro a w M1 H hM1 S E
 replace h0 := h0.le hM1
 have b0 := h0.bound
 refine Qb (Qa (S_a E rfl rfl fun _ E1 => Qc (T_n (Qb (Qb (Qa (S_m E1 rfl rfl fun _ E2 => S_v E2 rfl (QG E2 rfl rfl) rfl ?_)))))))
 clear E a E1 E2; intro a E
 refine Qc (T_n ?_)
 refine Qn E rfl (fun hc_1 => ?_) (fun hc_1 => ?_)
 ·refine Qa (S_m E rfl rfl fun _ E1 => S_m E1 rfl rfl fun _ E2 => S_v E2 rfl (Qp E2 rfl T22 h0.len) rfl fun _ E3 => S_v E3 rfl (Qq (m := x1 + (((l0).length : Nat) : Int)) E3 rfl rfl (by omega) (by omega)) rfl fun _ E4 => S_v E4 rfl (R_max (m := max (x1 + (((l0).length : Nat) : Int)) 0) E4 rfl rfl (by omega)) rfl fun _ E5 => S_a E5 rfl rfl ?_)
  clear E a E1 E2 E3 E4 E5; intro a E
  refine Qc (T_n (Qb (Qb (Qa (S_m E rfl rfl fun _ E1 => S_m E1 rfl rfl fun _ E2 => S_v E2 rfl (Qp E2 rfl T22 h0.len) rfl fun _ E3 => S_v E3 rfl (YV E3 rfl rfl) rfl ?_)))))
  clear E a E1 E2 E3; intro a E
  refine Qc (T_n ?_)
  refine Qn E rfl (fun hc_2 => ?_) (fun hc_2 => ?_)
  ·refine Qb (Qa (S_a E rfl rfl ?_))
   clear E a; intro a E
   refine Qc (T_n (Qe ?_))
   refine T_r ?_
   exact Qg E Tryz.results42 rfl ⟨_, rfl, M1, (Hp.le.refl _), (by rw [show JE l0 x1 x2 = [] from by (clear E S; (try simp only [List.length_drop] at *); unfold JE; first | (exfalso; omega) | (rw [List.drop_eq_nil_of_le (by split <;> omega)]; simp; done) | (apply Wo <;> first | omega | (split <;> omega) | (simp; omega) | (simp; split <;> omega)) | (apply Wn <;> first | omega | (split <;> omega) | (simp; omega)))]; exact RdS.nil _), S⟩
  ·refine Qh (T_n (Qb (Qa (S_m E rfl rfl fun _ E1 => S_m E1 rfl rfl ?_))))
   clear E a E1; intro a E
   obtain ⟨v_3, sv_3, hv_3⟩ := h0.subv ((max (x1 + (((l0).length : Nat) : Int)) 0).toNat) ((l0).length) (by omega) (by omega)
   simp only [List.take_length] at hv_3
   replace hv_3 : RdI M1 v_3 ((l0).drop ((max (x1 + (((l0).length : Nat) : Int)) 0).toNat)) := hv_3
   refine S_v E rfl (Jq E rfl rfl T22 h0.len sv_3 (by omega)) rfl fun _ E1 => S_a E1 rfl rfl fun _ E2 => Qc (T_n (Qb (Qb (Qa (S_m E2 rfl rfl fun _ E3 => S_m E3 rfl rfl fun _ E4 => S_v E4 rfl (Qp E4 rfl T22 hv_3.len) rfl fun _ E5 => S_v E5 rfl (Zf (m := ((((l0).drop ((max (x1 + (((l0).length : Nat) : Int)) 0).toNat)).length : Nat) : Int)) E5 rfl Tryz.underlying3 Tryz.underlying54 (by (rw [Jh]; simp; omega))) rfl ?_)))))
   clear E a E1 E2 E3 E4 E5; intro a E
   refine S_v E rfl (QG E rfl rfl) rfl ?_
   clear E a; intro a E
   refine Qc (T_n ?_)
   refine Qn E rfl (fun hc_4 => ?_) (fun hc_4 => ?_)
   ·refine Qa (S_m E rfl rfl fun _ E1 => S_m E1 rfl rfl ?_)
    clear E a E1; intro a E
    obtain ⟨v_5, sv_5, hv_5⟩ := hv_3.subv 0 ((x2).toNat) (by omega) (by omega)
    simp only [List.drop_zero] at hv_5
    replace hv_5 : RdI M1 v_5 (((l0).drop ((max (x1 + (((l0).length : Nat) : Int)) 0).toNat)).take ((x2).toNat)) := hv_5
    refine S_v E rfl (Jd E rfl rfl T22 sv_5 (by omega)) rfl fun _ E1 => S_a E1 rfl rfl fun _ E2 => Qc (T_n (Qb (Qa (S_m E2 rfl rfl fun _ E3 => S_a E3 rfl rfl ?_))))
    clear E a E1 E2 E3; intro a E
    refine Qc (T_n (Qe ?_))
    exact Qg E Tryz.results42 rfl ⟨_, rfl, M1, (Hp.le.refl _), (RdS.eqL hv_5 (by (clear E S; (try simp only [List.length_drop] at *); unfold JE; first | (exfalso; omega) | (rw [List.drop_eq_nil_of_le (by split <;> omega)]; simp; done) | (apply Wo <;> first | omega | (split <;> omega) | (simp; omega) | (simp; split <;> omega)) | (apply Wn <;> first | omega | (split <;> omega) | (simp; omega))))), S⟩
   ·refine Qh (T_n (Qb (Qa (S_m E rfl rfl fun _ E1 => S_a E1 rfl rfl ?_))))
    clear E a E1; intro a E
    refine Qc (T_n (Qe ?_))
    exact Qg E Tryz.results42 rfl ⟨_, rfl, M1, (Hp.le.refl _), (RdS.eqL hv_3 (by (clear E S; (try simp only [List.length_drop] at *); unfold JE; first | (exfalso; omega) | (rw [List.drop_eq_nil_of_le (by split <;> omega)]; simp; done) | (apply Wo <;> first | omega | (split <;> omega) | (simp; omega) | (simp; split <;> omega)) | (apply Wn <;> first | omega | (split <;> omega) | (simp; omega))))), S⟩
 ·refine Qh (T_n (Qb (Qb (Qa (S_m E rfl rfl fun _ E1 => S_m E1 rfl rfl fun _ E2 => S_v E2 rfl (Qp E2 rfl T22 h0.len) rfl fun _ E3 => S_v E3 rfl (YV E3 rfl rfl) rfl ?_)))))
  clear E a E1 E2 E3; intro a E
  refine Qc (T_n ?_)
  refine Qn E rfl (fun hc_6 => ?_) (fun hc_6 => ?_)
  ·refine Qb (Qa (S_a E rfl rfl ?_))
   clear E a; intro a E
   refine Qc (T_n (Qe ?_))
   refine T_r ?_
   exact Qg E Tryz.results42 rfl ⟨_, rfl, M1, (Hp.le.refl _), (by rw [show JE l0 x1 x2 = [] from by (clear E S; (try simp only [List.length_drop] at *); unfold JE; first | (exfalso; omega) | (rw [List.drop_eq_nil_of_le (by split <;> omega)]; simp; done) | (apply Wo <;> first | omega | (split <;> omega) | (simp; omega) | (simp; split <;> omega)) | (apply Wn <;> first | omega | (split <;> omega) | (simp; omega)))]; exact RdS.nil _), S⟩
  ·refine Qh (T_n (Qb (Qa (S_m E rfl rfl fun _ E1 => S_m E1 rfl rfl ?_))))
   clear E a E1; intro a E
   obtain ⟨v_7, sv_7, hv_7⟩ := h0.subv ((x1).toNat) ((l0).length) (by omega) (by omega)
   simp only [List.take_length] at hv_7
   replace hv_7 : RdI M1 v_7 ((l0).drop ((x1).toNat)) := hv_7
   refine S_v E rfl (Jq E rfl rfl T22 h0.len sv_7 (by omega)) rfl fun _ E1 => S_a E1 rfl rfl fun _ E2 => Qc (T_n (Qb (Qb (Qa (S_m E2 rfl rfl fun _ E3 => S_m E3 rfl rfl fun _ E4 => S_v E4 rfl (Qp E4 rfl T22 hv_7.len) rfl fun _ E5 => S_v E5 rfl (Zf (m := ((((l0).drop ((x1).toNat)).length : Nat) : Int)) E5 rfl Tryz.underlying3 Tryz.underlying54 (by (rw [Jh]; simp; omega))) rfl ?_)))))
   clear E a E1 E2 E3 E4 E5; intro a E
   refine S_v E rfl (QG E rfl rfl) rfl ?_
   clear E a; intro a E
   refine Qc (T_n ?_)
   refine Qn E rfl (fun hc_8 => ?_) (fun hc_8 => ?_)
   ·refine Qa (S_m E rfl rfl fun _ E1 => S_m E1 rfl rfl ?_)
    clear E a E1; intro a E
    obtain ⟨v_9, sv_9, hv_9⟩ := hv_7.subv 0 ((x2).toNat) (by omega) (by omega)
    simp only [List.drop_zero] at hv_9
    replace hv_9 : RdI M1 v_9 (((l0).drop ((x1).toNat)).take ((x2).toNat)) := hv_9
    refine S_v E rfl (Jd E rfl rfl T22 sv_9 (by omega)) rfl fun _ E1 => S_a E1 rfl rfl fun _ E2 => Qc (T_n (Qb (Qa (S_m E2 rfl rfl fun _ E3 => S_a E3 rfl rfl ?_))))
    clear E a E1 E2 E3; intro a E
    refine Qc (T_n (Qe ?_))
    exact Qg E Tryz.results42 rfl ⟨_, rfl, M1, (Hp.le.refl _), (RdS.eqL hv_9 (by (clear E S; (try simp only [List.length_drop] at *); unfold JE; first | (exfalso; omega) | (rw [List.drop_eq_nil_of_le (by split <;> omega)]; simp; done) | (apply Wo <;> first | omega | (split <;> omega) | (simp; omega) | (simp; split <;> omega)) | (apply Wn <;> first | omega | (split <;> omega) | (simp; omega))))), S⟩
   ·refine Qh (T_n (Qb (Qa (S_m E rfl rfl fun _ E1 => S_a E1 rfl rfl ?_))))
    clear E a E1; intro a E
    refine Qc (T_n (Qe ?_))
    exact Qg E Tryz.results42 rfl ⟨_, rfl, M1, (Hp.le.refl _), (RdS.eqL hv_7 (by (clear E S; (try simp only [List.length_drop] at *); unfold JE; first | (exfalso; omega) | (rw [List.drop_eq_nil_of_le (by split <;> omega)]; simp; done) | (apply Wo <;> first | omega | (split <;> omega) | (simp; omega) | (simp; split <;> omega)) | (apply Wn <;> first | omega | (split <;> omega) | (simp; omega))))), S⟩
theorem Un {M : Hp} {v0 : Value} {l0 : List Int} (h0 : RdI M v0 l0){x1 x2 x3 : Int}  (hb : l0.length ≤ 1000000000000) :
  Pu Tryz.prog (.func (.func 43) #[] #[]) M [v0, .int .i64 x1, .int .i64 x2, .int .i64 x3] (fun r M' => RdI M' r (JQ (Zn x1 x2) (JF x1) x3 l0)) := by
 refine Qk Tryz.func43 rfl Tryz.ntmps43 rfl Tryz.call43 ?_
 intro a w M1 H hM1 S E
 replace h0 := h0.le hM1
 have b0 := h0.bound
 refine Qb (Qa (S_a E rfl rfl fun _ E1 => Qc (T_n (Qb (Qa (S_a E1 rfl rfl fun _ E2 => Qc (T_n (Qb (Qb (Qa (S_m E2 rfl rfl fun _ E3 => S_v E3 rfl (Qp E3 rfl T22 h0.len) rfl fun _ E4 => S_m E4 rfl rfl ?_)))))))))))
 clear E a E1 E2 E3 E4; intro a E
 refine Qc (T_n (Qi ?_))
 replace S := (S.ownNil (e := 3) (sz := 1)).made0
 replace S := S.re1 (l' := JQ (Zn x1 x2) (JF x1) x3 (l0.take 0)) (by rfl)
 refine Qx (γ := Nat) (fun (k : Nat) a w => ∃ (M_2 : Hp) (u9 : Value), Hp.le M1 M_2 ∧ St w M_2 (QR 3 u9 (JQ (Zn x1 x2) (JF x1) x3 (l0.take k)) :: H) ∧ Env a 34 [] [(1, .int .i64 x1), (2, .int .i64 x2), (3, .int .i64 (Ya (JF x1) x3 (l0.take k))), (9, u9), (12, v0), (13, .int .i64 (((l0).length : Nat) : Int)), (14, .int .i64 ((k : Nat) : Int))] ∧ (k ≤ (l0).length)) (fun k => ((l0).length) - k) 0 ⟨M1, _, Hp.le.refl _, S, E.keep ⟨rfl, rfl, Za (i := x3) rfl (by (simp [Ya])), rfl, rfl, rfl, rfl, trivial⟩, by (omega)⟩ ?_
 try clear E
 try clear S
 try clear a
 try clear w
 rintro k a w ⟨M_2, u9, hM_2, S, E, hL0_0⟩
 replace h0 := h0.le hM_2
 have hms := Zj (Zn x1 x2) (JF x1) (l0.take k) x3; simp only [List.length_take] at hms
 refine Qb (Qa (S_v E rfl (QG E rfl rfl) rfl ?_))
 clear E a; intro a E
 refine Qc (T_n (Qb ?_))
 refine Qn E rfl (fun hc_3 => ?_) (fun hc_3 => ?_)
 ·refine Qh (T_n (Qb (Qi (Qb (Qa ?_)))))
  obtain ⟨x_4, hx_4⟩ : ∃ x, (l0)[k]? = some x := ⟨_, List.getElem?_eq_getElem (by omega)⟩
  obtain ⟨p_5, hp_5, qp_5⟩ := h0.at hx_4
  refine S_v E rfl (QB E rfl rfl T22 hp_5 rfl) rfl fun _ E1 => S_v E1 rfl (Qj E1 rfl Tryz.isAgg3 S.imm qp_5) rfl fun _ E2 => S_a E2 rfl rfl fun _ E3 => Qc (T_n (Qb (Qb (Qa (S_m E3 rfl rfl fun _ E4 => S_m E4 rfl rfl fun _ E5 => S_v E5 rfl (Qv E5 rfl rfl) rfl ?_)))))
  clear E a E1 E2 E3 E4 E5; intro a E
  refine S_m E rfl rfl ?_
  clear E a; intro a E
  refine QK (decide (x_4 = x1)) (fun hc_6 => ?_) (fun hc_6 => ?_)
  ·replace E := E.val (t := 20) rfl hc_6
   replace E := E.val (t := 21) rfl hc_6
   replace hc_6 := of_decide_eq_true hc_6
   refine Qf E rfl rfl ?_
   refine S_m E rfl rfl ?_
   clear E a; intro a E
   refine Qf E rfl rfl ?_
   refine S_v E rfl (Yv E rfl rfl) rfl fun _ E1 => S_v E1 rfl (QZ E1 rfl rfl) rfl ?_
   clear E a E1; intro a E
   refine Qc (T_n ?_)
   refine Qn E rfl (fun hc_7 => ?_) (fun hc_7 => ?_)
   ·refine Qb (Qa (S_m E rfl rfl fun _ E1 => S_a E1 rfl rfl fun _ E2 => Qc (T_n (Qa (S_m E2 rfl rfl fun _ E3 => S_v E3 rfl (R_sub E3 rfl rfl) rfl fun _ E4 => S_a E4 rfl rfl fun _ E5 => Qc (T_n (Qa (S_m E5 rfl rfl ?_))))))))
    clear E a E1 E2 E3 E4 E5; intro a E
    refine S_m E rfl rfl ?_
    clear E a; intro a E
    refine S_x (Qy (ys := [x2]) E S rfl T22 rfl rfl rfl ?_)
    clear E a S; rintro a w v_8 E S
    replace S := S.front1
    replace S := S.front1
    refine S_x (QH (xs := JQ (Zn x1 x2) (JF x1) x3 (l0.take k)) (ys := [x2]) E S rfl rfl rfl T22 (by (simp [Zj]; omega)) ?_)
    clear E a S; rintro a w v_9 E S
    refine S_a E rfl rfl fun _ E1 => Qc (B_n (T_n (Qa (S_v E1 rfl (Qq (m := ((k + 1 : Nat) : Int)) E1 rfl rfl (by omega) (by omega)) rfl fun _ E2 => S_m E2 rfl rfl ?_))))
    clear E a E1 E2; intro a E
    refine Qc (T_n ?_)
    replace S := S.re1 (l' := JQ (Zn x1 x2) (JF x1) x3 (l0.take (k + 1))) (by exact zo (by assumption) (by assumption) (by assumption))
    exact ⟨k + 1, ⟨M_2, _, hM_2, S, E.keep ⟨rfl, rfl, Za (i := IntKind.i64.wrap (Ya (JF x1) x3 (l0.take k) - 1)) rfl (by (exact WQ (by assumption) (by assumption) (by assumption))), rfl, rfl, rfl, rfl, trivial⟩, by (omega)⟩, by omega⟩
   ·refine Qh (T_n (Qa (S_m E rfl rfl fun _ E1 => S_m E1 rfl rfl ?_)))
    clear E a E1; intro a E
    refine S_x (Qy (ys := [x_4]) E S rfl T22 rfl rfl rfl ?_)
    clear E a S; rintro a w v_10 E S
    replace S := S.front1
    replace S := S.front1
    refine S_x (QH (xs := JQ (Zn x1 x2) (JF x1) x3 (l0.take k)) (ys := [x_4]) E S rfl rfl rfl T22 (by (simp [Zj]; omega)) ?_)
    clear E a S; rintro a w v_11 E S
    refine S_a E rfl rfl fun _ E1 => Qc (B_n (T_n (Qa (S_v E1 rfl (Qq (m := ((k + 1 : Nat) : Int)) E1 rfl rfl (by omega) (by omega)) rfl fun _ E2 => S_m E2 rfl rfl ?_))))
    clear E a E1 E2; intro a E
    refine Qc (T_n ?_)
    replace S := S.re1 (l' := JQ (Zn x1 x2) (JF x1) x3 (l0.take (k + 1))) (by exact jP (by assumption) (by first | (left; first | assumption | omega) | (right; first | assumption | omega)))
    exact ⟨k + 1, ⟨M_2, _, hM_2, S, E.keep ⟨rfl, rfl, Za (i := Ya (JF x1) x3 (l0.take k)) rfl (by (exact qg (by assumption) (by first | (left; first | assumption | omega) | (right; first | assumption | omega)))), rfl, rfl, rfl, rfl, trivial⟩, by (omega)⟩, by omega⟩
  ·replace E := E.val (t := 20) rfl hc_6
   replace E := E.val (t := 21) rfl hc_6
   replace hc_6 := of_decide_eq_false hc_6
   refine Qd E rfl rfl rfl rfl fun a E => ?_
   refine Qd E rfl rfl rfl rfl fun a E => ?_
   refine S_v E rfl (QQ E rfl rfl) rfl ?_
   clear E a; intro a E
   refine Qc (T_n ?_)
   refine Ja E rfl rfl ?_
   refine Qh (T_n (Qa (S_m E rfl rfl fun _ E1 => S_m E1 rfl rfl ?_)))
   clear E a E1; intro a E
   refine S_x (Qy (ys := [x_4]) E S rfl T22 rfl rfl rfl ?_)
   clear E a S; rintro a w v_12 E S
   replace S := S.front1
   replace S := S.front1
   refine S_x (QH (xs := JQ (Zn x1 x2) (JF x1) x3 (l0.take k)) (ys := [x_4]) E S rfl rfl rfl T22 (by (simp [Zj]; omega)) ?_)
   clear E a S; rintro a w v_13 E S
   refine S_a E rfl rfl fun _ E1 => Qc (B_n (T_n (Qa (S_v E1 rfl (Qq (m := ((k + 1 : Nat) : Int)) E1 rfl rfl (by omega) (by omega)) rfl fun _ E2 => S_m E2 rfl rfl ?_))))
   clear E a E1 E2; intro a E
   refine Qc (T_n ?_)
   replace S := S.re1 (l' := JQ (Zn x1 x2) (JF x1) x3 (l0.take (k + 1))) (by exact jP (by assumption) (by first | (left; first | assumption | omega) | (right; first | assumption | omega)))
   exact ⟨k + 1, ⟨M_2, _, hM_2, S, E.keep ⟨rfl, rfl, Za (i := Ya (JF x1) x3 (l0.take k)) rfl (by (exact qg (by assumption) (by first | (left; first | assumption | omega) | (right; first | assumption | omega)))), rfl, rfl, rfl, rfl, trivial⟩, by (omega)⟩, by omega⟩
 ·refine Qt (T_x (T_x (B_x (T_n (Qb (Qa (S_m E rfl rfl fun _ E1 => S_a E1 rfl rfl ?_)))))))
  clear E a E1; intro a E
  refine Qc (T_n (Qe ?_))
  have S0 := S; clear S
  obtain ⟨M_14, hM_14, hz_15, S⟩ := S0.freezeI (by (omega))
  clear S0
  exact Qg E Tryz.results43 rfl ⟨_, rfl, M_14, (hM_2.trans hM_14), (RdS.eqL hz_15 (by (rw [List.take_of_length_le (by omega)]))), S⟩
theorem UC {M : Hp} {v0 : Value} {l0 : List Int} (h0 : RdI M v0 l0){x1 x2 : Int}  (hb : l0.length ≤ 1000000000000) :
  Pu Tryz.prog (.func (.func 44) #[] #[]) M [v0, .int .i64 x1, .int .i64 x2] (fun r M' => RdI M' r (JQ (Zn x1 x2) (JF x1) (-1) l0)) := by
 refine Qk Tryz.func44 rfl Tryz.ntmps44 rfl Tryz.call44 ?_
 intro a w M1 H hM1 S E
 replace h0 := h0.le hM1
 have b0 := h0.bound
 have hms0 := Zj (Zn x1 x2) (JF x1) l0 (-1)
 refine Qb (Qa (S_a E rfl rfl fun _ E1 => Qc (T_n (Qb (Qa (S_m E1 rfl rfl fun _ E2 => S_m E2 rfl rfl fun _ E3 => S_m E3 rfl rfl ?_))))))
 clear E a E1 E2 E3; intro a E
 refine S_x (Qr E S rfl rfl rfl (Un h0 (by (omega))) (Hp.le.refl _) ?_)
 clear E a S; rintro a v_2 w M_1 hM_1 hv_2 S E
 refine S_a E rfl rfl ?_
 clear E a; intro a E
 refine Qc (T_n (Qe ?_))
 exact Qg E Tryz.results44 rfl ⟨_, rfl, M_1, hM_1, hv_2, S⟩
theorem UL {M : Hp} {v0 v2 : Value} {l0 l2 : List Int} (h0 : RdI M v0 l0) (h2 : RdI M v2 l2){kk1 kn1 : Int} (gk1 : -9223372036854775808 ≤ kn1 ∧ kn1 ≤ 9223372036854775807) (hb : l0.length ≤ 1000000000000) (hr0 : (∀ x ∈ l0, -9223372036854775808 ≤ x ∧ x ≤ 9223372036854775807)) :
  Pu Tryz.prog (.func (.func 114) #[] #[]) M [v0, .agg #[.int .i64 kk1, .int .i64 kn1], v2] (fun r M' => RdI M' r ((l0).filter (fun x => !decide (Qs kk1 kn1 x 0 ∈ l2)))) := by
 refine Qk Tryz.func114 rfl Tryz.ntmps114 rfl Tryz.call114 ?_
 intro a w M1 H hM1 S E
 replace h0 := h0.le hM1
 replace h2 := h2.le hM1
 have b0 := h0.bound
 have b2 := h2.bound
 refine Qb (Qa ?_)
 refine S_x (Jc (cs := #[.int .i64 kk1, .int .i64 kn1]) E S rfl rfl rfl ?_)
 clear E a S; rintro a w b_1 E S
 obtain ⟨M_2, hM_2, hb_1, S⟩ := S.freezeB
 replace h0 := h0.le hM_2
 replace h2 := h2.le hM_2
 refine S_a E rfl rfl fun _ E1 => Qc (T_n (Qb (Qa (S_a E1 rfl rfl fun _ E2 => Qc (T_n (Qb (Qb (Qa (S_m E2 rfl rfl fun _ E3 => S_v E3 rfl (Qp E3 rfl T22 h0.len) rfl fun _ E4 => S_m E4 rfl rfl ?_)))))))))
 clear E a E1 E2 E3 E4; intro a E
 refine Qc (T_n (Qi ?_))
 replace S := (S.ownNil (e := 3) (sz := 1)).made0
 replace S := S.re1 (l' := (l0.take 0).filter (fun x => !decide (Qs kk1 kn1 x 0 ∈ l2))) (by (simp; done))
 refine Qx (γ := Nat) (fun (k : Nat) a w => ∃ (M_4 : Hp) (u7 : Value), Hp.le M_2 M_4 ∧ St w M_4 (QR 3 u7 ((l0.take k).filter (fun x => !decide (Qs kk1 kn1 x 0 ∈ l2))) :: H) ∧ Env a 28 [] [(2, v2), (4, .pointer (some ⟨b_1, 0, none⟩)), (7, u7), (10, v0), (11, .int .i64 (((l0).length : Nat) : Int)), (12, .int .i64 ((k : Nat) : Int))] ∧ (k ≤ (l0).length)) (fun k => ((l0).length) - k) 0 ⟨M_2, _, Hp.le.refl _, S, E.keep ⟨rfl, rfl, rfl, rfl, rfl, rfl, trivial⟩, by (omega)⟩ ?_
 try clear E
 try clear S
 try clear a
 try clear w
 rintro k a w ⟨M_4, u7, hM_4, S, E, hL0_0⟩
 replace h0 := h0.le hM_4
 replace h2 := h2.le hM_4
 replace hb_1 := hM_4.2 _ _ hb_1
 have hfl := List.length_filter_le (fun x => !decide (Qs kk1 kn1 x 0 ∈ l2)) (l0.take k); rw [List.length_take] at hfl
 refine Qb (Qa (S_v E rfl (QG E rfl rfl) rfl ?_))
 clear E a; intro a E
 refine Qc (T_n (Qb ?_))
 refine Qn E rfl (fun hc_5 => ?_) (fun hc_5 => ?_)
 ·refine Qh (T_n (Qb (Qi (Qb (Qa ?_)))))
  obtain ⟨x_6, hx_6⟩ : ∃ x, (l0)[k]? = some x := ⟨_, List.getElem?_eq_getElem (by omega)⟩
  obtain ⟨p_7, hp_7, qp_7⟩ := h0.at hx_6
  refine S_v E rfl (QB E rfl rfl T22 hp_7 rfl) rfl fun _ E1 => S_v E1 rfl (Qj E1 rfl Tryz.isAgg3 S.imm qp_7) rfl fun _ E2 => S_a E2 rfl rfl fun _ E3 => Qc (T_n (Qb (Qa (S_m E3 rfl rfl fun _ E4 => S_v E4 rfl (QA E4 rfl (Tryz.isAgg42 _) (Tryz.sizeOf42 _) S.imm hb_1) rfl fun _ E5 => S_m E5 rfl rfl ?_))))
  clear E a E1 E2 E3 E4 E5; intro a E
  refine S_x (Qr E S rfl rfl rfl (Uj (by omega) (by exact hr0 _ (List.mem_of_getElem? (by assumption)))) (Hp.le.refl _) ?_)
  clear E a S; rintro a _ w M_8 hM_8 rfl S E
  replace h2 := h2.le hM_8
  refine S_x (Qr E S rfl rfl rfl (YM h2) (Hp.le.refl _) ?_)
  clear E a S; rintro a _ w M_9 hM_9 rfl S E
  refine S_v E rfl (Zk E rfl) rfl ?_
  clear E a; intro a E
  refine Qc (T_n ?_)
  refine QL E rfl (fun hc_10 => ?_) (fun hc_10 => ?_)
  ·refine Qa ?_
   refine S_m E rfl rfl fun _ E1 => S_m E1 rfl rfl ?_
   clear E a E1; intro a E
   refine S_x (Qy (ys := [x_6]) E S rfl T22 rfl rfl rfl ?_)
   clear E a S; rintro a w v_11 E S
   replace S := S.front1
   replace S := S.front1
   refine S_x (QH (xs := (l0.take k).filter (fun x => !decide (Qs kk1 kn1 x 0 ∈ l2))) (ys := [x_6]) E S rfl rfl rfl T22 (by (simp only [List.length_cons, List.length_nil] at *; omega)) ?_)
   clear E a S; rintro a w v_12 E S
   refine S_a E rfl rfl fun _ E1 => Qc (B_n (T_n (Qa (S_v E1 rfl (Qq (m := ((k + 1 : Nat) : Int)) E1 rfl rfl (by omega) (by omega)) rfl fun _ E2 => S_m E2 rfl rfl ?_))))
   clear E a E1 E2; intro a E
   refine Qc (T_n ?_)
   replace S := S.re1 (l' := (l0.take (k + 1)).filter (fun x => !decide (Qs kk1 kn1 x 0 ∈ l2))) (by exact flt_y (F := (fun x => !decide (Qs kk1 kn1 x 0 ∈ l2))) (by assumption) (by assumption))
   exact ⟨k + 1, ⟨M_9, _, (hM_4.trans (hM_8.trans hM_9)), S, E.keep ⟨rfl, rfl, rfl, rfl, rfl, rfl, trivial⟩, by (omega)⟩, by omega⟩
  ·refine Qh ?_
   refine B_n (T_n (Qa (S_v E rfl (Qq (m := ((k + 1 : Nat) : Int)) E rfl rfl (by omega) (by omega)) rfl fun _ E1 => S_m E1 rfl rfl ?_)))
   clear E a E1; intro a E
   refine Qc (T_n ?_)
   replace S := S.re1 (l' := (l0.take (k + 1)).filter (fun x => !decide (Qs kk1 kn1 x 0 ∈ l2))) (by exact flt_n (F := (fun x => !decide (Qs kk1 kn1 x 0 ∈ l2))) (by assumption) (by assumption))
   exact ⟨k + 1, ⟨M_9, _, (hM_4.trans (hM_8.trans hM_9)), S, E.keep ⟨rfl, rfl, rfl, rfl, rfl, rfl, trivial⟩, by (omega)⟩, by omega⟩
 ·refine Qt (T_x (T_x (B_x (T_n (Qb (Qa (S_m E rfl rfl fun _ E1 => S_a E1 rfl rfl ?_)))))))
  clear E a E1; intro a E
  refine Qc (T_n (Qe ?_))
  have S0 := S; clear S
  obtain ⟨M_13, hM_13, hz_14, S⟩ := S0.freezeI (by (have hfl := List.length_filter_le (fun x => !decide (Qs kk1 kn1 x 0 ∈ l2)) (l0.take k); rw [List.length_take] at hfl; omega))
  clear S0
  exact Qg E Tryz.results114 rfl ⟨_, rfl, M_13, (hM_2.trans (hM_4.trans hM_13)), (RdS.eqL hz_14 (by (rw [List.take_of_length_le (by omega)]))), S⟩
theorem Vd {M : Hp} {v0 v1 : Value} {l0 l1 : List Int} (h0 : RdI M v0 l0) (h1 : RdI M v1 l1) (hb : l0.length ≤ 1000000000000) (hr0 : (∀ x ∈ l0, -9223372036854775808 ≤ x ∧ x ≤ 9223372036854775807)) :
  Pu Tryz.prog (.func (.func 113) #[] #[]) M [v0, v1] (fun r M' => RdI M' r ((l0).filter (fun x => !decide (x ∈ l1)))) := by
 refine Qk Tryz.func113 rfl Tryz.ntmps113 rfl Tryz.call113 ?_
 intro a w M1 H hM1 S E
 replace h0 := h0.le hM1
 replace h1 := h1.le hM1
 have b0 := h0.bound
 have b1 := h1.bound
 refine Qb (Qa (S_a E rfl rfl fun _ E1 => Qc (T_n (Qb (Qa (S_m E1 rfl rfl ?_))))))
 clear E a E1; intro a E
 refine S_x (Qr E S rfl rfl rfl (Wp ) (Hp.le.refl _) ?_)
 clear E a S; rintro a _ w M_1 hM_1 rfl S E
 replace h0 := h0.le hM_1
 replace h1 := h1.le hM_1
 refine S_m E rfl rfl ?_
 clear E a; intro a E
 refine S_x (Qr E S rfl rfl rfl (UL h0 h1 (by omega) (by (omega)) (by assumption)) (Hp.le.refl _) ?_)
 clear E a S; rintro a v_3 w M_2 hM_2 hv_3 S E
 refine S_a E rfl rfl ?_
 clear E a; intro a E
 refine Qc (T_n (Qe ?_))
 exact Qg E Tryz.results113 rfl ⟨_, rfl, M_2, (hM_1.trans hM_2), (RdS.eqL hv_3 (by (exact wo5 _ _ _))), S⟩
theorem yq {M : Hp} {v0 : Value} {l0 : List Int} (h0 : RdI M v0 l0) (hb : l0.length ≤ 1000000000000) (hr0 : (∀ x ∈ l0, -9223372036854775808 ≤ x ∧ x ≤ 9223372036854775807)) :
  Pu Tryz.prog (.func (.func 103) #[] #[]) M [v0] (fun r M' => RdI M' r ((l0).filter (fun x => decide (x ≠ 0)))) := by
 refine Qk Tryz.func103 rfl Tryz.ntmps103 rfl Tryz.call103 ?_
 intro a w M1 H hM1 S E
 replace h0 := h0.le hM1
 have b0 := h0.bound
 refine Qb (Qa (S_a E rfl rfl fun _ E1 => Qc (T_n (Qb (Qa (S_m E1 rfl rfl ?_))))))
 clear E a E1; intro a E
 refine S_x (Qy (ys := [0]) E S rfl T22 rfl rfl rfl ?_)
 clear E a S; rintro a w v_1 E S
 have S0 := S; clear S
 obtain ⟨M_2, hM_2, hz_3, S⟩ := S0.freezeI (by ((simp; done)))
 clear S0
 replace h0 := h0.le hM_2
 refine S_x (Qr E S rfl rfl rfl (Vd h0 hz_3 (by (omega)) (by assumption)) (Hp.le.refl _) ?_)
 clear E a S; rintro a v_5 w M_4 hM_4 hv_5 S E
 refine S_a E rfl rfl ?_
 clear E a; intro a E
 refine Qc (T_n (Qe ?_))
 exact Qg E Tryz.results103 rfl ⟨_, rfl, M_4, (hM_2.trans hM_4), (RdS.eqL hv_5 (by (exact cmp0 _))), S⟩
theorem vx {M : Hp} {v0 v2 : Value} {l0 l2 : List Int} (h0 : RdI M v0 l0) (h2 : RdI M v2 l2){x1 : Int} (g1 : -9223372036854775808 ≤ x1 ∧ x1 ≤ 9223372036854775807)(hb : l0.length + l2.length ≤ 1000000000000) :
  Pu Tryz.prog (.func (.func 104) #[] #[]) M [v0, .int .i64 x1, v2] (fun r M' => RdI M' r (Yh l0 x1 l2)) := by
 refine Qk Tryz.func104 rfl Tryz.ntmps104 rfl Tryz.call104 ?_
 intro a w M1 H hM1 S E
 replace h0 := h0.le hM1
 replace h2 := h2.le hM1
 have b0 := h0.bound
 have b2 := h2.bound
 refine Qb (Qa (S_a E rfl rfl fun _ E1 => Qc (T_n (Qb (Qb (Qa (S_m E1 rfl rfl fun _ E2 => S_v E2 rfl (QG E2 rfl rfl) rfl ?_)))))))
 clear E a E1 E2; intro a E
 refine Qc (T_n ?_)
 refine Qn E rfl (fun hc_1 => ?_) (fun hc_1 => ?_)
 ·refine Qa (S_m E rfl rfl fun _ E1 => S_m E1 rfl rfl fun _ E2 => S_v E2 rfl (Qp E2 rfl T22 h0.len) rfl fun _ E3 => S_v E3 rfl (Qq (m := x1 + (((l0).length : Nat) : Int)) E3 rfl rfl (by omega) (by omega)) rfl fun _ E4 => S_v E4 rfl (R_max (m := max (x1 + (((l0).length : Nat) : Int)) 0) E4 rfl rfl (by omega)) rfl fun _ E5 => S_a E5 rfl rfl ?_)
  clear E a E1 E2 E3 E4 E5; intro a E
  refine Qc (T_n (Qb (Qa (S_m E rfl rfl fun _ E1 => S_m E1 rfl rfl fun _ E2 => S_v E2 rfl (Qp E2 rfl T22 h0.len) rfl fun _ E3 => S_v E3 rfl (GC (m := min (max (x1 + (((l0).length : Nat) : Int)) 0) (((l0).length : Nat) : Int)) E3 rfl rfl (by omega)) rfl fun _ E4 => S_a E4 rfl rfl ?_))))
  clear E a E1 E2 E3 E4; intro a E
  refine Qc (T_n (Qb ?_))
  replace S := S.mono_heap (w' := World.drew _) rfl
  refine Jx (C := fun x w => agree M1 w) (bf := (fun i => [])) [1, 2, 3, 5, 7, 8, 9, 11] [1, 2, 3, 5, 7, 8, 9, 0, 4, 6, 10, 11] Tryz.mixed (by kernel_rfl) (fun x hq => S.imm) ?_
  refine D_v E rfl rfl rfl (fun w hC => (Qu E rfl)) fun _ E1 => D_v E1 rfl rfl rfl (fun w hC => (Qu E1 rfl)) ?_
  clear E a E1; intro a E
  obtain ⟨v_2, sv_2, hv_2⟩ := h0.subv 0 ((min (max (x1 + (((l0).length : Nat) : Int)) 0) (((l0).length : Nat) : Int)).toNat) (by omega) (by omega)
  simp only [List.drop_zero] at hv_2
  replace hv_2 : RdI M1 v_2 ((l0).take ((min (max (x1 + (((l0).length : Nat) : Int)) 0) (((l0).length : Nat) : Int)).toNat)) := hv_2
  refine D_v E rfl rfl rfl (fun w hC => (Jd E rfl rfl T22 sv_2 (by omega))) fun _ E1 => D_v E1 rfl rfl rfl (fun w hC => (Qu E1 rfl)) fun _ E2 => D_v E2 rfl rfl rfl (fun w hC => (Qu E2 rfl)) fun _ E3 => D_v E3 rfl rfl rfl (fun w hC => (Qu E3 rfl)) ?_
  clear E a E1 E2 E3; intro a E
  obtain ⟨v_3, sv_3, hv_3⟩ := h0.subv ((min (max (x1 + (((l0).length : Nat) : Int)) 0) (((l0).length : Nat) : Int)).toNat) ((l0).length) (by omega) (by omega)
  simp only [List.take_length] at hv_3
  replace hv_3 : RdI M1 v_3 ((l0).drop ((min (max (x1 + (((l0).length : Nat) : Int)) 0) (((l0).length : Nat) : Int)).toNat)) := hv_3
  refine D_v E rfl rfl rfl (fun w hC => (Jq E rfl rfl T22 h0.len sv_3 (by omega))) ?_
  clear E a; intro a E
  refine D_x rfl rfl rfl (Qy (ys := []) E S rfl T22 rfl rfl rfl ?_)
  clear E a S; rintro a w v_4 E S
  refine ⟨fun x hq hb => (Qz (Hp.le.refl _) S.imm), ?_⟩
  refine D_x rfl rfl rfl (QJ (xs := ([] : List Int)) E S rfl rfl rfl T22 hv_2 (by (simp; omega)) ?_)
  clear E a S; rintro a w v_5 E S
  refine ⟨fun x hq hb => (Qz (Hp.le.refl _) S.imm), ?_⟩
  refine D_x rfl rfl rfl (QJ (xs := [] ++ ((l0).take ((min (max (x1 + (((l0).length : Nat) : Int)) 0) (((l0).length : Nat) : Int)).toNat))) E S rfl rfl rfl T22 h2 (by (simp; omega)) ?_)
  clear E a S; rintro a w v_6 E S
  refine ⟨fun x hq hb => (Qz (Hp.le.refl _) S.imm), ?_⟩
  refine D_x rfl rfl rfl (QJ (xs := ([] ++ ((l0).take ((min (max (x1 + (((l0).length : Nat) : Int)) 0) (((l0).length : Nat) : Int)).toNat))) ++ l2) E S rfl rfl rfl T22 hv_3 (by (simp; omega)) ?_)
  clear E a S; rintro a w v_7 E S
  refine ⟨fun x hq hb => (Qz (Hp.le.refl _) S.imm), ?_⟩
  refine D_v E rfl rfl rfl (fun w hC => (Jm E rfl)) ?_
  clear E a; intro a E
  refine Ze (Zd ?_)
  refine T_n (Qe ?_)
  have S0 := S; clear S
  obtain ⟨M_8, hM_8, hz_9, S⟩ := S0.freezeI (by ((simp; omega)))
  clear S0
  replace h0 := h0.le hM_8
  replace h2 := h2.le hM_8
  exact Qg E Tryz.results104 rfl ⟨_, rfl, M_8, hM_8, (RdS.eqL hz_9 (by unfold Yh; simp only [List.nil_append]; first | (rw [if_neg (by omega)]; have e : min x1.toNat l0.length = (min x1 ↑l0.length).toNat := (by omega); rw [e]; done) | (rw [if_pos (by omega)]; have e : min (x1 + ↑l0.length).toNat l0.length = (min (max (x1 + ↑l0.length) 0) ↑l0.length).toNat := (by omega); rw [e]; done))), S⟩
 ·refine Qh (T_n (Qb (Qa (S_m E rfl rfl fun _ E1 => S_m E1 rfl rfl fun _ E2 => S_v E2 rfl (Qp E2 rfl T22 h0.len) rfl fun _ E3 => S_v E3 rfl (GC (m := min x1 (((l0).length : Nat) : Int)) E3 rfl rfl (by omega)) rfl fun _ E4 => S_a E4 rfl rfl ?_))))
  clear E a E1 E2 E3 E4; intro a E
  refine Qc (T_n (Qb ?_))
  replace S := S.mono_heap (w' := World.drew _) rfl
  refine Jx (C := fun x w => agree M1 w) (bf := (fun i => [])) [1, 2, 3, 5, 7, 8, 9, 11] [1, 2, 3, 5, 7, 8, 9, 0, 4, 6, 10, 11] Tryz.mixed (by kernel_rfl) (fun x hq => S.imm) ?_
  refine D_v E rfl rfl rfl (fun w hC => (Qu E rfl)) fun _ E1 => D_v E1 rfl rfl rfl (fun w hC => (Qu E1 rfl)) ?_
  clear E a E1; intro a E
  obtain ⟨v_10, sv_10, hv_10⟩ := h0.subv 0 ((min x1 (((l0).length : Nat) : Int)).toNat) (by omega) (by omega)
  simp only [List.drop_zero] at hv_10
  replace hv_10 : RdI M1 v_10 ((l0).take ((min x1 (((l0).length : Nat) : Int)).toNat)) := hv_10
  refine D_v E rfl rfl rfl (fun w hC => (Jd E rfl rfl T22 sv_10 (by omega))) fun _ E1 => D_v E1 rfl rfl rfl (fun w hC => (Qu E1 rfl)) fun _ E2 => D_v E2 rfl rfl rfl (fun w hC => (Qu E2 rfl)) fun _ E3 => D_v E3 rfl rfl rfl (fun w hC => (Qu E3 rfl)) ?_
  clear E a E1 E2 E3; intro a E
  obtain ⟨v_11, sv_11, hv_11⟩ := h0.subv ((min x1 (((l0).length : Nat) : Int)).toNat) ((l0).length) (by omega) (by omega)
  simp only [List.take_length] at hv_11
  replace hv_11 : RdI M1 v_11 ((l0).drop ((min x1 (((l0).length : Nat) : Int)).toNat)) := hv_11
  refine D_v E rfl rfl rfl (fun w hC => (Jq E rfl rfl T22 h0.len sv_11 (by omega))) ?_
  clear E a; intro a E
  refine D_x rfl rfl rfl (Qy (ys := []) E S rfl T22 rfl rfl rfl ?_)
  clear E a S; rintro a w v_12 E S
  refine ⟨fun x hq hb => (Qz (Hp.le.refl _) S.imm), ?_⟩
  refine D_x rfl rfl rfl (QJ (xs := ([] : List Int)) E S rfl rfl rfl T22 hv_10 (by (simp; omega)) ?_)
  clear E a S; rintro a w v_13 E S
  refine ⟨fun x hq hb => (Qz (Hp.le.refl _) S.imm), ?_⟩
  refine D_x rfl rfl rfl (QJ (xs := [] ++ ((l0).take ((min x1 (((l0).length : Nat) : Int)).toNat))) E S rfl rfl rfl T22 h2 (by (simp; omega)) ?_)
  clear E a S; rintro a w v_14 E S
  refine ⟨fun x hq hb => (Qz (Hp.le.refl _) S.imm), ?_⟩
  refine D_x rfl rfl rfl (QJ (xs := ([] ++ ((l0).take ((min x1 (((l0).length : Nat) : Int)).toNat))) ++ l2) E S rfl rfl rfl T22 hv_11 (by (simp; omega)) ?_)
  clear E a S; rintro a w v_15 E S
  refine ⟨fun x hq hb => (Qz (Hp.le.refl _) S.imm), ?_⟩
  refine D_v E rfl rfl rfl (fun w hC => (Jm E rfl)) ?_
  clear E a; intro a E
  refine Ze (Zd ?_)
  refine T_n (Qe ?_)
  have S0 := S; clear S
  obtain ⟨M_16, hM_16, hz_17, S⟩ := S0.freezeI (by ((simp; omega)))
  clear S0
  exact Qg E Tryz.results104 rfl ⟨_, rfl, M_16, hM_16, (RdS.eqL hz_17 (by unfold Yh; simp only [List.nil_append]; first | (rw [if_neg (by omega)]; have e : min x1.toNat l0.length = (min x1 ↑l0.length).toNat := (by omega); rw [e]; done) | (rw [if_pos (by omega)]; have e : min (x1 + ↑l0.length).toNat l0.length = (min (max (x1 + ↑l0.length) 0) ↑l0.length).toNat := (by omega); rw [e]; done))), S⟩
theorem WG {M : Hp} {v0 v1 : Value} {l0 l1 : List Int} (h0 : RdI M v0 l0) (h1 : RdI M v1 l1) (hr0 : (∀ x ∈ l0, -9223372036854775808 ≤ x ∧ x ≤ 9223372036854775807)) :
  Pu Tryz.prog (.func (.func 105) #[] #[]) M [v0, v1] (fun r M' => RdI M' r ((l0).dropWhile (fun x => decide (x ∈ l1)))) := by
 refine Qk Tryz.func105 rfl Tryz.ntmps105 rfl Tryz.call105 ?_
 intro a w M1 H hM1 S E
 replace h0 := h0.le hM1
 replace h1 := h1.le hM1
 have b0 := h0.bound
 have b1 := h1.bound
 refine Qb (Qa (S_a E rfl rfl fun _ E1 => Qc (T_n (Qb (Qa (S_m E1 rfl rfl fun _ E2 => S_m E2 rfl rfl fun _ E3 => S_v E3 rfl (VE (u := .agg #[.int .i64 2, .int .i64 0, v1]) (vs := [.int .i64 2, v1]) E3 rfl (fun w => by obtain ⟨A0, c0, e0, _⟩ := RdS.len h1; rw [e0]; exact qq 2 _ _ _ w)) rfl ?_))))))
 clear E a E1 E2 E3; intro a E
 refine S_x (Qr E S rfl rfl rfl (Vo h0 h1 (by omega) (by assumption)) (Hp.le.refl _) ?_)
 clear E a S; rintro a v_2 w M_1 hM_1 hv_2 S E
 refine S_a E rfl rfl ?_
 clear E a; intro a E
 refine Qc (T_n (Qe ?_))
 exact Qg E Tryz.results105 rfl ⟨_, rfl, M_1, hM_1, (RdS.eqL hv_2 (by rfl)), S⟩
theorem UN {M : Hp} {v0 v1 : Value} {l0 l1 : List Int} (h0 : RdI M v0 l0) (h1 : RdI M v1 l1) (hr0 : (∀ x ∈ l0, -9223372036854775808 ≤ x ∧ x ≤ 9223372036854775807)) :
  Pu Tryz.prog (.func (.func 106) #[] #[]) M [v0, v1] (fun r M' => RdI M' r (drw (fun x => decide (x ∈ l1)) l0)) := by
 refine Qk Tryz.func106 rfl Tryz.ntmps106 rfl Tryz.call106 ?_
 intro a w M1 H hM1 S E
 replace h0 := h0.le hM1
 replace h1 := h1.le hM1
 have b0 := h0.bound
 have b1 := h1.bound
 refine Qb (Qa (S_a E rfl rfl fun _ E1 => Qc (T_n (Qb (Qa (S_m E1 rfl rfl fun _ E2 => S_m E2 rfl rfl fun _ E3 => S_v E3 rfl (VE (u := .agg #[.int .i64 2, .int .i64 0, v1]) (vs := [.int .i64 2, v1]) E3 rfl (fun w => by obtain ⟨A0, c0, e0, _⟩ := RdS.len h1; rw [e0]; exact qq 2 _ _ _ w)) rfl ?_))))))
 clear E a E1 E2 E3; intro a E
 refine S_x (Qr E S rfl rfl rfl (ZZ h0 h1 (by omega) (by assumption)) (Hp.le.refl _) ?_)
 clear E a S; rintro a v_2 w M_1 hM_1 hv_2 S E
 refine S_a E rfl rfl ?_
 clear E a; intro a E
 refine Qc (T_n (Qe ?_))
 exact Qg E Tryz.results106 rfl ⟨_, rfl, M_1, hM_1, (RdS.eqL hv_2 (by rfl)), S⟩
theorem spec_Trim {M : Hp} {v0 v1 : Value} {l0 l1 : List Int} (h0 : RdI M v0 l0) (h1 : RdI M v1 l1) (hr0 : (∀ x ∈ l0, -9223372036854775808 ≤ x ∧ x ≤ 9223372036854775807)) :
  Pu Tryz.prog (.func (.func 107) #[] #[]) M [v0, v1] (fun r M' => RdI M' r (drw (fun x => decide (x ∈ l1)) ((l0).dropWhile (fun x => decide (x ∈ l1))))) := by
 refine Qk Tryz.func107 rfl Tryz.ntmps107 rfl Tryz.call107 ?_
 intro a w M1 H hM1 S E
 replace h0 := h0.le hM1
 replace h1 := h1.le hM1
 have b0 := h0.bound
 have b1 := h1.bound
 refine Qb (Qa (S_a E rfl rfl fun _ E1 => Qc (T_n (Qb (Qa (S_m E1 rfl rfl fun _ E2 => S_m E2 rfl rfl ?_))))))
 clear E a E1 E2; intro a E
 refine S_x (Qr E S rfl rfl rfl (WG h0 h1 (by assumption)) (Hp.le.refl _) ?_)
 clear E a S; rintro a v_2 w M_1 hM_1 hv_2 S E
 replace h1 := h1.le hM_1
 refine S_m E rfl rfl ?_
 clear E a; intro a E
 refine S_x (Qr E S rfl rfl rfl (UN hv_2 h1 (by (intro x hx; exact hr0 x ((List.dropWhile_sublist _).subset hx)))) (Hp.le.refl _) ?_)
 clear E a S; rintro a v_4 w M_3 hM_3 hv_4 S E
 refine S_a E rfl rfl ?_
 clear E a; intro a E
 refine Qc (T_n (Qe ?_))
 exact Qg E Tryz.results107 rfl ⟨_, rfl, M_3, (hM_1.trans hM_3), hv_4, S⟩
theorem zf {M : Hp} {v0 v1 : Value} {l0 l1 : List Int} (h0 : RdI M v0 l0) (h1 : RdI M v1 l1) :
  Pu Tryz.prog (.func (.func 313) #[] #[]) M [v0, v1] (fun r M' => r = .bool (decide (l0 = l1))) := by
 refine Qk Tryz.func313 rfl Tryz.ntmps313 rfl Tryz.call313 ?_
 intro a w M1 H hM1 S E
 replace h0 := h0.le hM1
 replace h1 := h1.le hM1
 have b0 := h0.bound
 have b1 := h1.bound
 refine Qb (Qa (S_a E rfl rfl fun _ E1 => Qc (T_n (Qb (Qb (Qa (S_m E1 rfl rfl fun _ E2 => S_v E2 rfl (Qp E2 rfl T22 h0.len) rfl fun _ E3 => S_m E3 rfl rfl fun _ E4 => S_v E4 rfl (Qp E4 rfl T22 h1.len) rfl fun _ E5 => S_v E5 rfl (Yv E5 rfl rfl) rfl ?_)))))))
 clear E a E1 E2 E3 E4 E5; intro a E
 refine Qc (T_n ?_)
 refine Qn E rfl (fun hc_1 => ?_) (fun hc_1 => ?_)
 ·refine Qb (Qa (S_a E rfl rfl ?_))
  clear E a; intro a E
  refine Qc (T_n (Qe ?_))
  refine T_r ?_
  exact Qg E Tryz.results313 rfl ⟨_, rfl, M1, (Hp.le.refl _), (bF (by ((try clear S); (try clear E); first | assumption | omega | rfl | (simp; done) | (simp_all; done) | (simp [List.take_add_one, *]; done) | grind [List.take_add_one]))), S⟩
 ·refine Qh (T_n (Qb (Qb (Qa (S_m E rfl rfl fun _ E1 => S_v E1 rfl (Qp E1 rfl T22 h0.len) rfl fun _ E2 => S_m E2 rfl rfl ?_)))))
  clear E a E1 E2; intro a E
  refine Qc (T_n (Qi ?_))
  refine Qx (γ := Nat) (fun (k : Nat) a w => ∃ (M_2 : Hp), Hp.le M1 M_2 ∧ St w M_2 (H) ∧ Env a 26 [] [(0, v0), (1, v1), (12, .int .i64 (((l0).length : Nat) : Int)), (13, .int .i64 ((k : Nat) : Int))] ∧ (k ≤ (l0).length) ∧ (l0.length = l1.length) ∧ (l0.take k = l1.take k)) (fun k => ((l0).length) - k) 0 ⟨M1, Hp.le.refl _, S, E.keep ⟨rfl, rfl, rfl, rfl, trivial⟩, by ((try clear S); (try clear E); first | assumption | omega | rfl | (simp; done) | (simp_all; done) | (simp [List.take_add_one, *]; done) | grind [List.take_add_one]), by ((try clear S); (try clear E); first | assumption | omega | rfl | (simp; done) | (simp_all; done) | (simp [List.take_add_one, *]; done) | grind [List.take_add_one]), by ((try clear S); (try clear E); first | assumption | omega | rfl | (simp; done) | (simp_all; done) | (simp [List.take_add_one, *]; done) | grind [List.take_add_one])⟩ ?_
  try clear E
  try clear S
  try clear a
  try clear w
  rintro k a w ⟨M_2, hM_2, S, E, hL0_0, hL0_1, hL0_2⟩
  replace h0 := h0.le hM_2
  replace h1 := h1.le hM_2
  refine Qb (Qa (S_v E rfl (QG E rfl rfl) rfl ?_))
  clear E a; intro a E
  refine Qc (T_n (Qb ?_))
  refine Qn E rfl (fun hc_3 => ?_) (fun hc_3 => ?_)
  ·refine Qh (T_n (Qb (Qi (Qb (Qa (S_m E rfl rfl fun _ E1 => S_a E1 rfl rfl ?_))))))
   clear E a E1; intro a E
   refine Qc (T_n (Qb ?_))
   replace S := S.mono_heap (w' := World.drew _) rfl
   refine Jx (C := fun x w => agree M_2 w) (bf := (fun i => [])) [0, 1, 2, 3, 4, 5, 6, 7, 8] [0, 1, 2, 3, 4, 5, 6, 7, 8] Tryz.mixed (by kernel_rfl) (fun x hq => S.imm) ?_
   refine D_v E rfl rfl rfl (fun w hC => (Qu E rfl)) fun _ E1 => D_v E1 rfl rfl rfl (fun w hC => (Qu E1 rfl)) ?_
   clear E a E1; intro a E
   obtain ⟨x_4, hx_4⟩ : ∃ x, (l0)[k]? = some x := ⟨_, List.getElem?_eq_getElem (by first | omega | (simp; done) | (simp; omega) | (simp_all; omega))⟩
   obtain ⟨p_5, hp_5, qp_5⟩ := h0.at hx_4
   refine D_v E rfl rfl rfl (fun w hC => (QB E rfl rfl T22 hp_5 rfl)) fun _ E1 => D_v E1 rfl rfl rfl (fun w hC => (Qj E1 rfl Tryz.isAgg3 hC qp_5)) fun _ E2 => D_v E2 rfl rfl rfl (fun w hC => (Qu E2 rfl)) fun _ E3 => D_v E3 rfl rfl rfl (fun w hC => (Qu E3 rfl)) ?_
   clear E a E1 E2 E3; intro a E
   obtain ⟨x_6, hx_6⟩ : ∃ x, (l1)[k]? = some x := ⟨_, List.getElem?_eq_getElem (by first | omega | (simp; done) | (simp; omega) | (simp_all; omega))⟩
   obtain ⟨p_7, hp_7, qp_7⟩ := h1.at hx_6
   refine D_v E rfl rfl rfl (fun w hC => (QB E rfl rfl T22 hp_7 rfl)) fun _ E1 => D_v E1 rfl rfl rfl (fun w hC => (Qj E1 rfl Tryz.isAgg3 hC qp_7)) fun _ E2 => D_v E2 rfl rfl rfl (fun w hC => (Yv E2 rfl rfl)) ?_
   clear E a E1 E2; intro a E
   refine Ze (Zd ?_)
   refine T_n ?_
   refine Qn E rfl (fun hc_8 => ?_) (fun hc_8 => ?_)
   ·refine Qb (Qa (S_a E rfl rfl ?_))
    clear E a; intro a E
    refine Qc (T_n (Qe (B_r ?_)))
    refine T_r ?_
    refine T_r ?_
    refine B_r ?_
    refine T_r ?_
    exact Qg E Tryz.results313 rfl ⟨_, rfl, M_2, hM_2, (bF (by ((try clear S); (try clear E); first | assumption | omega | rfl | (simp; done) | (simp_all; done) | (simp [List.take_add_one, *]; done) | grind [List.take_add_one]))), S⟩
   ·refine Qh (B_n (T_n (Qa (S_v E rfl (Qq (m := ((k + 1 : Nat) : Int)) E rfl rfl (by omega) (by omega)) rfl fun _ E1 => S_m E1 rfl rfl ?_))))
    clear E a E1; intro a E
    refine Qc (T_n ?_)
    exact ⟨k + 1, ⟨M_2, hM_2, S, E.keep ⟨rfl, rfl, rfl, rfl, trivial⟩, by ((try clear S); (try clear E); first | assumption | omega | rfl | (simp; done) | (simp_all; done) | (simp [List.take_add_one, *]; done) | grind [List.take_add_one]), by ((try clear S); (try clear E); first | assumption | omega | rfl | (simp; done) | (simp_all; done) | (simp [List.take_add_one, *]; done) | grind [List.take_add_one]), by ((try clear S); (try clear E); first | assumption | omega | rfl | (simp; done) | (simp_all; done) | (simp [List.take_add_one, *]; done) | grind [List.take_add_one])⟩, by omega⟩
  ·refine Qt (T_x (T_x (B_x (T_n (Qb (Qa (S_a E rfl rfl ?_)))))))
   clear E a; intro a E
   refine Qc (T_n (Qe ?_))
   exact Qg E Tryz.results313 rfl ⟨_, rfl, M_2, hM_2, (bT (by ((try clear S); (try clear E); first | assumption | omega | rfl | (simp; done) | (simp_all; done) | (simp [List.take_add_one, *]; done) | grind [List.take_add_one]))), S⟩
theorem qb {M : Hp} {v0 v1 : Value} {l0 l1 : List Int} (h0 : RdI M v0 l0) (h1 : RdI M v1 l1){x2 : Int} (g2 : -1000000000000000 ≤ x2 ∧ x2 ≤ 1000000000000000) :
  Pu Tryz.prog (.func (.func 237) #[] #[]) M [v0, v1, .int .i64 x2] (fun r M' => r = .bool (Vw l0 l1 x2)) := by
 refine Qk Tryz.func237 rfl Tryz.ntmps237 rfl Tryz.call237 ?_
 intro a w M1 H hM1 S E
 replace h0 := h0.le hM1
 replace h1 := h1.le hM1
 have b0 := h0.bound
 have b1 := h1.bound
 refine Qb (Qa (S_a E rfl rfl fun _ E1 => Qc (T_n (Qb (Qa (S_m E1 rfl rfl fun _ E2 => S_v E2 rfl (YV E2 rfl rfl) rfl fun _ E3 => S_m E3 rfl rfl ?_))))))
 clear E a E1 E2 E3; intro a E
 refine QK (decide (0 ≤ x2)) (fun hc_1 => ?_) (fun hc_1 => ?_)
 ·replace E := E.val (t := 8) rfl hc_1
  replace E := E.val (t := 9) rfl hc_1
  replace hc_1 := of_decide_eq_true hc_1
  refine Qf E rfl rfl ?_
  refine S_m E rfl rfl ?_
  clear E a; intro a E
  refine Qf E rfl rfl ?_
  refine S_m E rfl rfl ?_
  clear E a; intro a E
  refine Qf E rfl rfl ?_
  refine S_v E rfl (Qp E rfl T22 h1.len) rfl ?_
  clear E a; intro a E
  refine Qf E rfl rfl ?_
  refine S_v E rfl (Qq (m := x2 + (((l1).length : Nat) : Int)) E rfl rfl (by omega) (by omega)) rfl ?_
  clear E a; intro a E
  refine Qf E rfl rfl ?_
  refine S_m E rfl rfl ?_
  clear E a; intro a E
  refine Qf E rfl rfl ?_
  refine S_v E rfl (Qp E rfl T22 h0.len) rfl ?_
  clear E a; intro a E
  refine Qf E rfl rfl ?_
  refine S_v E rfl (ZV E rfl rfl) rfl fun _ E1 => S_v E1 rfl (QZ E1 rfl rfl) rfl fun _ E2 => S_m E2 rfl rfl ?_
  clear E a E1 E2; intro a E
  refine QK (decide (x2 + (((l1).length : Nat) : Int) ≤ (((l0).length : Nat) : Int))) (fun hc_2 => ?_) (fun hc_2 => ?_)
  ·replace E := E.val (t := 16) rfl hc_2
   replace E := E.val (t := 17) rfl hc_2
   replace E := E.val (t := 18) rfl hc_2
   replace hc_2 := of_decide_eq_true hc_2
   refine Qf E rfl rfl ?_
   refine S_m E rfl rfl ?_
   clear E a; intro a E
   refine Qf E rfl rfl ?_
   refine S_m E rfl rfl ?_
   clear E a; intro a E
   refine Qf E rfl rfl ?_
   refine S_m E rfl rfl ?_
   clear E a; intro a E
   refine Qf E rfl rfl ?_
   refine S_m E rfl rfl ?_
   clear E a; intro a E
   refine Qf E rfl rfl ?_
   refine S_v E rfl (Qp E rfl T22 h1.len) rfl ?_
   clear E a; intro a E
   refine Qf E rfl rfl ?_
   refine S_v E rfl (Qq (m := x2 + (((l1).length : Nat) : Int)) E rfl rfl (by omega) (by omega)) rfl ?_
   clear E a; intro a E
   obtain ⟨v_3, sv_3, hv_3⟩ := h0.subv ((x2).toNat) ((x2 + (((l1).length : Nat) : Int)).toNat) (by omega) (by omega)
   replace hv_3 : RdI M1 v_3 (((l0).take ((x2 + (((l1).length : Nat) : Int)).toNat)).drop ((x2).toNat)) := hv_3
   refine Qf E rfl rfl ?_
   refine S_v E rfl (Je E rfl rfl rfl T22 sv_3 (by omega) (by omega)) rfl ?_
   clear E a; intro a E
   refine Qf E rfl rfl ?_
   refine S_m E rfl rfl ?_
   clear E a; intro a E
   refine Qf E rfl rfl ?_
   refine S_x (Qr E S rfl rfl rfl (zf hv_3 h1) (Hp.le.refl _) ?_)
   clear E a S; rintro a _ w M_4 hM_4 rfl S E
   refine S_v E rfl (QZ E rfl rfl) rfl fun _ E1 => S_a E1 rfl rfl ?_
   clear E a E1; intro a E
   refine Qc (T_n (Qe ?_))
   exact Qg E Tryz.results237 rfl ⟨_, rfl, M_4, hM_4, (congrArg Value.bool (by (clear E S; unfold Vw; first | exact decide_eq_false (by omega) | exact (decide_eq_false (by omega)).symm | exact decide_eq_decide.2 ⟨fun h => ⟨by omega, by omega, h⟩, fun h => h.2.2⟩ | exact decide_eq_decide.2 ⟨fun h => h.2.2, fun h => ⟨by omega, by omega, h⟩⟩))), S⟩
  ·replace E := E.val (t := 16) rfl hc_2
   replace E := E.val (t := 17) rfl hc_2
   replace E := E.val (t := 18) rfl hc_2
   replace hc_2 := of_decide_eq_false hc_2
   refine Qd E rfl rfl rfl rfl fun a E => ?_
   refine Qd E rfl rfl rfl rfl fun a E => ?_
   refine Qd E rfl rfl rfl rfl fun a E => ?_
   refine Qd E rfl rfl rfl rfl fun a E => ?_
   refine Qd E rfl rfl rfl rfl fun a E => ?_
   refine Qd E rfl rfl rfl rfl fun a E => ?_
   refine Qd E rfl rfl rfl rfl fun a E => ?_
   refine Qd E rfl rfl rfl rfl fun a E => ?_
   refine Qd E rfl rfl rfl rfl fun a E => ?_
   refine S_v E rfl (QQ E rfl rfl) rfl fun _ E1 => S_a E1 rfl rfl ?_
   clear E a E1; intro a E
   refine Qc (T_n (Qe ?_))
   exact Qg E Tryz.results237 rfl ⟨_, rfl, M1, (Hp.le.refl _), (congrArg Value.bool (by (clear E S; unfold Vw; first | exact decide_eq_false (by omega) | exact (decide_eq_false (by omega)).symm | exact decide_eq_decide.2 ⟨fun h => ⟨by omega, by omega, h⟩, fun h => h.2.2⟩ | exact decide_eq_decide.2 ⟨fun h => h.2.2, fun h => ⟨by omega, by omega, h⟩⟩))), S⟩
 ·replace E := E.val (t := 8) rfl hc_1
  replace E := E.val (t := 9) rfl hc_1
  replace hc_1 := of_decide_eq_false hc_1
  refine Qd E rfl rfl rfl rfl fun a E => ?_
  refine Qd E rfl rfl rfl rfl fun a E => ?_
  refine Qd E rfl rfl rfl rfl fun a E => ?_
  refine Qd E rfl rfl rfl rfl fun a E => ?_
  refine Qd E rfl rfl rfl rfl fun a E => ?_
  refine Qd E rfl rfl rfl rfl fun a E => ?_
  refine Qd E rfl rfl rfl rfl fun a E => ?_
  refine S_v E rfl (QQ E rfl rfl) rfl fun _ E1 => S_m E1 rfl rfl ?_
  clear E a E1; intro a E
  refine Qd E rfl rfl rfl rfl fun a E => ?_
  refine Qd E rfl rfl rfl rfl fun a E => ?_
  refine Qd E rfl rfl rfl rfl fun a E => ?_
  refine Qd E rfl rfl rfl rfl fun a E => ?_
  refine Qd E rfl rfl rfl rfl fun a E => ?_
  refine Qd E rfl rfl rfl rfl fun a E => ?_
  refine Qd E rfl rfl rfl rfl fun a E => ?_
  refine Qd E rfl rfl rfl rfl fun a E => ?_
  refine Qd E rfl rfl rfl rfl fun a E => ?_
  refine S_v E rfl (QQ E rfl rfl) rfl fun _ E1 => S_a E1 rfl rfl ?_
  clear E a E1; intro a E
  refine Qc (T_n (Qe ?_))
  exact Qg E Tryz.results237 rfl ⟨_, rfl, M1, (Hp.le.refl _), (congrArg Value.bool (by (clear E S; unfold Vw; first | exact decide_eq_false (by omega) | exact (decide_eq_false (by omega)).symm | exact decide_eq_decide.2 ⟨fun h => ⟨by omega, by omega, h⟩, fun h => h.2.2⟩ | exact decide_eq_decide.2 ⟨fun h => h.2.2, fun h => ⟨by omega, by omega, h⟩⟩))), S⟩
theorem UP {M : Hp} {v0 v1 : Value} {l0 l1 : List Int} (h0 : RdI M v0 l0) (h1 : RdI M v1 l1) :
  Pu Tryz.prog (.func (.func 233) #[] #[]) M [v0, v1] (fun r M' => r = .bool (Yz l0 l1)) := by
 refine Qk Tryz.func233 rfl Tryz.ntmps233 rfl Tryz.call233 ?_
 intro a w M1 H hM1 S E
 replace h0 := h0.le hM1
 replace h1 := h1.le hM1
 have b0 := h0.bound
 have b1 := h1.bound
 refine Qb (Qa (S_a E rfl rfl fun _ E1 => Qc (T_n (Qb (Qa (S_m E1 rfl rfl fun _ E2 => S_m E2 rfl rfl ?_))))))
 clear E a E1 E2; intro a E
 refine S_x (Qr E S rfl rfl rfl (qb h0 h1 (by (omega))) (Hp.le.refl _) ?_)
 clear E a S; rintro a _ w M_1 hM_1 rfl S E
 refine S_a E rfl rfl ?_
 clear E a; intro a E
 refine Qc (T_n (Qe ?_))
 exact Qg E Tryz.results233 rfl ⟨_, rfl, M_1, hM_1, (congrArg Value.bool (by (exact vu _ _))), S⟩
theorem qu {M : Hp} {v0 v1 : Value} {l0 l1 : List Int} (h0 : RdI M v0 l0) (h1 : RdI M v1 l1) :
  Pu Tryz.prog (.func (.func 108) #[] #[]) M [v0, v1] (fun r M' => RdI M' r (ZH l1 l0)) := by
 refine Qk Tryz.func108 rfl Tryz.ntmps108 rfl Tryz.call108 ?_
 intro a w M1 H hM1 S E
 replace h0 := h0.le hM1
 replace h1 := h1.le hM1
 have b0 := h0.bound
 have b1 := h1.bound
 refine Qb (Qa (S_a E rfl rfl ?_))
 clear E a; intro a E
 refine Qc (T_n (Qb (Qi ?_)))
 refine Qx (γ := List Int) (fun (p : List Int) a w => ∃ (M_1 : Hp) (u0 : Value), Hp.le M1 M_1 ∧ St w M_1 (H) ∧ Env a 18 [] [(0, u0), (1, v1)] ∧ (ZH l1 p = ZH l1 l0) ∧ RdI M_1 u0 p) (fun p => p.length) l0 ⟨M1, _, Hp.le.refl _, S, E.keep ⟨rfl, rfl, trivial⟩, rfl, (qJ h0 (by rfl))⟩ ?_
 try clear E
 try clear S
 try clear a
 try clear w
 rintro p a w ⟨M_1, u0, hM_1, S, E, hL0_0, hs0_0⟩
 replace h1 := h1.le hM_1
 have hpb := (hs0_0).bound
 refine Qb (Qb (Qa (S_m E rfl rfl fun _ E1 => S_v E1 rfl (Qp E1 rfl T22 h1.len) rfl fun _ E2 => S_v E2 rfl (JT E2 rfl rfl) rfl fun _ E3 => S_m E3 rfl rfl ?_)))
 clear E a E1 E2 E3; intro a E
 refine QK (decide (0 < (((l1).length : Nat) : Int))) (fun hc_2 => ?_) (fun hc_2 => ?_)
 ·replace E := E.val (t := 7) rfl hc_2
  replace E := E.val (t := 8) rfl hc_2
  replace hc_2 := of_decide_eq_true hc_2
  refine Qf E rfl rfl ?_
  refine S_m E rfl rfl ?_
  clear E a; intro a E
  refine Qf E rfl rfl ?_
  refine S_m E rfl rfl ?_
  clear E a; intro a E
  refine Qf E rfl rfl ?_
  refine S_x (Qr E S rfl rfl rfl (UP hs0_0 h1) (Hp.le.refl _) ?_)
  clear E a S; rintro a _ w M_3 hM_3 rfl S E
  replace h1 := h1.le hM_3
  replace hs0_0 := hs0_0.le hM_3
  refine S_v E rfl (QZ E rfl rfl) rfl ?_
  clear E a; intro a E
  refine Qc (T_n ?_)
  refine QL E rfl (fun hc_4 => ?_) (fun hc_4 => ?_)
  ·have hle9 := YN (by assumption)
   refine Qh (T_n (Qi (Qa (S_m E rfl rfl fun _ E1 => S_m E1 rfl rfl fun _ E2 => S_v E2 rfl (Qp E2 rfl T22 h1.len) rfl ?_))))
   clear E a E1 E2; intro a E
   obtain ⟨v_5, sv_5, hv_5⟩ := hs0_0.subv ((l1).length) ((p).length) (by omega) (by omega)
   simp only [List.take_length] at hv_5
   replace hv_5 : RdI M_3 v_5 ((p).drop ((l1).length)) := hv_5
   refine S_v E rfl (Jq E rfl rfl T22 hs0_0.len sv_5 (by omega)) rfl fun _ E1 => S_a E1 rfl rfl ?_
   clear E a E1; intro a E
   refine Qc (B_n (T_n ?_))
   exact ⟨p.drop l1.length, ⟨M_3, _, (hM_1.trans hM_3), S, E.keep ⟨rfl, rfl, trivial⟩, (by rw [← jM (by omega) (by assumption)]; exact hL0_0), (qJ hv_5 (by rfl))⟩, (by have h9 := YN (by assumption); simp; omega)⟩
  ·refine Qt ?_
   refine T_x (T_x (B_x (T_n (Qb (Qa (S_m E rfl rfl fun _ E1 => S_a E1 rfl rfl ?_))))))
   clear E a E1; intro a E
   refine Qc (T_n (Qe ?_))
   exact Qg E Tryz.results108 rfl ⟨_, rfl, M_3, (hM_1.trans hM_3), (by rw [show (ZH l1 l0) = p from by ((rw [← hL0_0]; first | exact VN (by assumption) | exact (VN (by assumption)).symm | exact YD (by omega) | exact (YD (by omega)).symm))]; exact hs0_0), S⟩
 ·replace E := E.val (t := 7) rfl hc_2
  replace E := E.val (t := 8) rfl hc_2
  replace hc_2 := of_decide_eq_false hc_2
  refine Qd E rfl rfl rfl rfl fun a E => ?_
  refine Qd E rfl rfl rfl rfl fun a E => ?_
  refine Qd E rfl rfl rfl rfl fun a E => ?_
  refine S_v E rfl (QQ E rfl rfl) rfl ?_
  clear E a; intro a E
  refine Qc (T_n ?_)
  refine Ja E rfl rfl ?_
  refine Qt (T_x (T_x (B_x (T_n (Qb (Qa (S_m E rfl rfl fun _ E1 => S_a E1 rfl rfl ?_)))))))
  clear E a E1; intro a E
  refine Qc (T_n (Qe ?_))
  exact Qg E Tryz.results108 rfl ⟨_, rfl, M_1, hM_1, (by rw [show (ZH l1 l0) = p from by ((rw [← hL0_0]; first | exact VN (by assumption) | exact (VN (by assumption)).symm | exact YD (by omega) | exact (YD (by omega)).symm))]; exact hs0_0), S⟩
theorem UO {M : Hp} {v0 v1 : Value} {l0 l1 : List Int} (h0 : RdI M v0 l0) (h1 : RdI M v1 l1) :
  Pu Tryz.prog (.func (.func 234) #[] #[]) M [v0, v1] (fun r M' => r = .bool (Yy l0 l1)) := by
 refine Qk Tryz.func234 rfl Tryz.ntmps234 rfl Tryz.call234 ?_
 intro a w M1 H hM1 S E
 replace h0 := h0.le hM1
 replace h1 := h1.le hM1
 have b0 := h0.bound
 have b1 := h1.bound
 refine Qb (Qa (S_a E rfl rfl fun _ E1 => Qc (T_n (Qb (Qa (S_m E1 rfl rfl fun _ E2 => S_m E2 rfl rfl fun _ E3 => S_m E3 rfl rfl fun _ E4 => S_v E4 rfl (Qp E4 rfl T22 h0.len) rfl fun _ E5 => S_m E5 rfl rfl ?_))))))
 clear E a E1 E2 E3 E4 E5; intro a E
 refine S_v E rfl (Qp E rfl T22 h1.len) rfl fun _ E1 => S_v E1 rfl (Jg (m := (((l0).length : Nat) : Int) - (((l1).length : Nat) : Int)) E1 rfl rfl (by omega) (by omega)) rfl ?_
 clear E a E1; intro a E
 refine S_x (Qr E S rfl rfl rfl (qb h0 h1 (by (omega))) (Hp.le.refl _) ?_)
 clear E a S; rintro a _ w M_1 hM_1 rfl S E
 refine S_a E rfl rfl ?_
 clear E a; intro a E
 refine Qc (T_n (Qe ?_))
 exact Qg E Tryz.results234 rfl ⟨_, rfl, M_1, hM_1, (congrArg Value.bool (by (exact vt _ _))), S⟩
theorem qt {M : Hp} {v0 v1 : Value} {l0 l1 : List Int} (h0 : RdI M v0 l0) (h1 : RdI M v1 l1) :
  Pu Tryz.prog (.func (.func 109) #[] #[]) M [v0, v1] (fun r M' => RdI M' r (trimS l1 l0)) := by
 refine Qk Tryz.func109 rfl Tryz.ntmps109 rfl Tryz.call109 ?_
 intro a w M1 H hM1 S E
 replace h0 := h0.le hM1
 replace h1 := h1.le hM1
 have b0 := h0.bound
 have b1 := h1.bound
 refine Qb (Qa (S_a E rfl rfl ?_))
 clear E a; intro a E
 refine Qc (T_n (Qb (Qi ?_)))
 refine Qx (γ := List Int) (fun (p : List Int) a w => ∃ (M_1 : Hp) (u0 : Value), Hp.le M1 M_1 ∧ St w M_1 (H) ∧ Env a 21 [] [(0, u0), (1, v1)] ∧ (trimS l1 p = trimS l1 l0) ∧ RdI M_1 u0 p) (fun p => p.length) l0 ⟨M1, _, Hp.le.refl _, S, E.keep ⟨rfl, rfl, trivial⟩, rfl, (qJ h0 (by rfl))⟩ ?_
 try clear E
 try clear S
 try clear a
 try clear w
 rintro p a w ⟨M_1, u0, hM_1, S, E, hL0_0, hs0_0⟩
 replace h1 := h1.le hM_1
 have hpb := (hs0_0).bound
 refine Qb (Qb (Qa (S_m E rfl rfl fun _ E1 => S_v E1 rfl (Qp E1 rfl T22 h1.len) rfl fun _ E2 => S_v E2 rfl (JT E2 rfl rfl) rfl fun _ E3 => S_m E3 rfl rfl ?_)))
 clear E a E1 E2 E3; intro a E
 refine QK (decide (0 < (((l1).length : Nat) : Int))) (fun hc_2 => ?_) (fun hc_2 => ?_)
 ·replace E := E.val (t := 7) rfl hc_2
  replace E := E.val (t := 8) rfl hc_2
  replace hc_2 := of_decide_eq_true hc_2
  refine Qf E rfl rfl ?_
  refine S_m E rfl rfl ?_
  clear E a; intro a E
  refine Qf E rfl rfl ?_
  refine S_m E rfl rfl ?_
  clear E a; intro a E
  refine Qf E rfl rfl ?_
  refine S_x (Qr E S rfl rfl rfl (UO hs0_0 h1) (Hp.le.refl _) ?_)
  clear E a S; rintro a _ w M_3 hM_3 rfl S E
  replace h1 := h1.le hM_3
  replace hs0_0 := hs0_0.le hM_3
  refine S_v E rfl (QZ E rfl rfl) rfl ?_
  clear E a; intro a E
  refine Qc (T_n ?_)
  refine QL E rfl (fun hc_4 => ?_) (fun hc_4 => ?_)
  ·have hle9 := Yi (by assumption)
   refine Qh (T_n (Qi (Qa (S_m E rfl rfl fun _ E1 => S_m E1 rfl rfl fun _ E2 => S_v E2 rfl (Qp E2 rfl T22 hs0_0.len) rfl fun _ E3 => S_m E3 rfl rfl fun _ E4 => S_v E4 rfl (Qp E4 rfl T22 h1.len) rfl fun _ E5 => S_v E5 rfl (Jg (m := (((p).length - ((l1).length) : Nat) : Int)) E5 rfl rfl (by omega) (by omega)) rfl ?_))))
   clear E a E1 E2 E3 E4 E5; intro a E
   obtain ⟨v_5, sv_5, hv_5⟩ := hs0_0.subv 0 ((p).length - ((l1).length)) (by omega) (by omega)
   simp only [List.drop_zero] at hv_5
   replace hv_5 : RdI M_3 v_5 ((p).take ((p).length - ((l1).length))) := hv_5
   refine S_v E rfl (Jd E rfl rfl T22 sv_5 (by omega)) rfl fun _ E1 => S_a E1 rfl rfl ?_
   clear E a E1; intro a E
   refine Qc (B_n (T_n ?_))
   exact ⟨p.take (p.length - l1.length), ⟨M_3, _, (hM_1.trans hM_3), S, E.keep ⟨rfl, rfl, trivial⟩, (by rw [← jK (by omega) (by assumption)]; exact hL0_0), (qJ hv_5 (by rfl))⟩, (by have h9 := Yi (by assumption); simp; omega)⟩
  ·refine Qt ?_
   refine T_x (T_x (B_x (T_n (Qb (Qa (S_m E rfl rfl fun _ E1 => S_a E1 rfl rfl ?_))))))
   clear E a E1; intro a E
   refine Qc (T_n (Qe ?_))
   exact Qg E Tryz.results109 rfl ⟨_, rfl, M_3, (hM_1.trans hM_3), (by rw [show (trimS l1 l0) = p from by ((rw [← hL0_0]; first | exact VM (by assumption) | exact (VM (by assumption)).symm | exact YC (by omega) | exact (YC (by omega)).symm))]; exact hs0_0), S⟩
 ·replace E := E.val (t := 7) rfl hc_2
  replace E := E.val (t := 8) rfl hc_2
  replace hc_2 := of_decide_eq_false hc_2
  refine Qd E rfl rfl rfl rfl fun a E => ?_
  refine Qd E rfl rfl rfl rfl fun a E => ?_
  refine Qd E rfl rfl rfl rfl fun a E => ?_
  refine S_v E rfl (QQ E rfl rfl) rfl ?_
  clear E a; intro a E
  refine Qc (T_n ?_)
  refine Ja E rfl rfl ?_
  refine Qt (T_x (T_x (B_x (T_n (Qb (Qa (S_m E rfl rfl fun _ E1 => S_a E1 rfl rfl ?_)))))))
  clear E a E1; intro a E
  refine Qc (T_n (Qe ?_))
  exact Qg E Tryz.results109 rfl ⟨_, rfl, M_1, hM_1, (by rw [show (trimS l1 l0) = p from by ((rw [← hL0_0]; first | exact VM (by assumption) | exact (VM (by assumption)).symm | exact YC (by omega) | exact (YC (by omega)).symm))]; exact hs0_0), S⟩
theorem zh {M : Hp} {v0 v1 : Value} {l0 l1 : List Int} (h0 : RdI M v0 l0) (h1 : RdI M v1 l1) (hb : l0.length ≤ 1000000000000) :
  Pu Tryz.prog (.func (.func 111) #[] #[]) M [v0, v1] (fun r M' => ∃ t0, r = .tuple #[t0, .bool (Yz l0 l1)] ∧ RdI M' t0 (VD l0 l1)) := by
 refine Qk Tryz.func111 rfl Tryz.ntmps111 rfl Tryz.call111 ?_
 intro a w M1 H hM1 S E
 replace h0 := h0.le hM1
 replace h1 := h1.le hM1
 have b0 := h0.bound
 have b1 := h1.bound
 have hcl := GW l0 l1
 refine Qb (Qa (S_a E rfl rfl fun _ E1 => S_a E1 rfl rfl fun _ E2 => Qc (T_n (Qb (Qb (Qa (S_m E2 rfl rfl fun _ E3 => S_m E3 rfl rfl ?_)))))))
 clear E a E1 E2 E3; intro a E
 refine S_x (Qr E S rfl rfl rfl (UP h0 h1) (Hp.le.refl _) ?_)
 clear E a S; rintro a _ w M_1 hM_1 rfl S E
 replace h0 := h0.le hM_1
 replace h1 := h1.le hM_1
 refine S_v E rfl (Zk E rfl) rfl ?_
 clear E a; intro a E
 refine Qc (T_n ?_)
 refine QL E rfl (fun hc_2 => ?_) (fun hc_2 => ?_)
 ·refine Qb ?_
  refine Qa (S_m E rfl rfl fun _ E1 => S_a E1 rfl rfl fun _ E2 => S_a E2 rfl rfl ?_)
  clear E a E1 E2; intro a E
  refine Qc (T_n (Qe ?_))
  refine T_r ?_
  exact Jt E Tryz.results111 rfl rfl ⟨_, rfl, M_1, hM_1, ⟨_, (by (rw [show Yz l0 l1 = false by simpa using (show (!Yz l0 l1) = true by assumption)])), (by rw [show (VD l0 l1) = l0 from by (unfold VD; (rw [show Yz l0 l1 = false by simpa using (show (!Yz l0 l1) = true by assumption)]); first | rfl | simp)]; exact h0)⟩, S⟩
 ·have hle := YN (l := l0) (m := l1) (by (simpa using (show (!Yz l0 l1) = false by assumption)))
  refine Qh (T_n (Qb (Qa (S_m E rfl rfl fun _ E1 => S_m E1 rfl rfl fun _ E2 => S_v E2 rfl (Qp E2 rfl T22 h1.len) rfl ?_))))
  clear E a E1 E2; intro a E
  obtain ⟨v_3, sv_3, hv_3⟩ := h0.subv ((l1).length) ((l0).length) (by omega) (by omega)
  simp only [List.take_length] at hv_3
  replace hv_3 : RdI M_1 v_3 ((l0).drop ((l1).length)) := hv_3
  refine S_v E rfl (Jq E rfl rfl T22 h0.len sv_3 (by omega)) rfl fun _ E1 => S_a E1 rfl rfl fun _ E2 => S_a E2 rfl rfl ?_
  clear E a E1 E2; intro a E
  refine Qc (T_n (Qe ?_))
  exact Jt E Tryz.results111 rfl rfl ⟨_, rfl, M_1, hM_1, ⟨_, (by (rw [show Yz l0 l1 = true by simpa using (show (!Yz l0 l1) = false by assumption)])), (RdS.eqL hv_3 (by (unfold VD; (rw [show Yz l0 l1 = true by simpa using (show (!Yz l0 l1) = false by assumption)]); first | rfl | simp)))⟩, S⟩
theorem VB {M : Hp} {v0 : Value} {l0 : List Int} (h0 : RdI M v0 l0){x1 : Bool}  :
  Pu Tryz.prog (.func (.func 110) #[] #[]) M [v0, .bool x1] (fun r M' => RdI M' r l0) := by
 refine Qk Tryz.func110 rfl Tryz.ntmps110 rfl Tryz.call110 ?_
 intro a w M1 H hM1 S E
 replace h0 := h0.le hM1
 have b0 := h0.bound
 refine Qb (Qa (S_a E rfl rfl fun _ E1 => Qc (T_n (Qb (Qa (S_m E1 rfl rfl fun _ E2 => S_a E2 rfl rfl ?_))))))
 clear E a E1 E2; intro a E
 refine Qc (T_n (Qe ?_))
 exact Qg E Tryz.results110 rfl ⟨_, rfl, M1, (Hp.le.refl _), h0, S⟩
theorem zg {M : Hp} {v0 v1 : Value} {l0 l1 : List Int} (h0 : RdI M v0 l0) (h1 : RdI M v1 l1) (hb : l0.length ≤ 1000000000000) :
  Pu Tryz.prog (.func (.func 112) #[] #[]) M [v0, v1] (fun r M' => ∃ t0, r = .tuple #[t0, .bool (Yy l0 l1)] ∧ RdI M' t0 (VC l0 l1)) := by
 refine Qk Tryz.func112 rfl Tryz.ntmps112 rfl Tryz.call112 ?_
 intro a w M1 H hM1 S E
 replace h0 := h0.le hM1
 replace h1 := h1.le hM1
 have b0 := h0.bound
 have b1 := h1.bound
 have hcl := GV l0 l1
 refine Qb (Qa (S_a E rfl rfl fun _ E1 => S_a E1 rfl rfl fun _ E2 => Qc (T_n (Qb (Qb (Qa (S_m E2 rfl rfl fun _ E3 => S_m E3 rfl rfl ?_)))))))
 clear E a E1 E2 E3; intro a E
 refine S_x (Qr E S rfl rfl rfl (UO h0 h1) (Hp.le.refl _) ?_)
 clear E a S; rintro a _ w M_1 hM_1 rfl S E
 replace h0 := h0.le hM_1
 replace h1 := h1.le hM_1
 refine S_v E rfl (Zk E rfl) rfl ?_
 clear E a; intro a E
 refine Qc (T_n ?_)
 refine QL E rfl (fun hc_2 => ?_) (fun hc_2 => ?_)
 ·refine Qb ?_
  refine Qa (S_m E rfl rfl fun _ E1 => S_a E1 rfl rfl fun _ E2 => S_a E2 rfl rfl ?_)
  clear E a E1 E2; intro a E
  refine Qc (T_n (Qe ?_))
  refine T_r ?_
  exact Jt E Tryz.results112 rfl rfl ⟨_, rfl, M_1, hM_1, ⟨_, (by (rw [show Yy l0 l1 = false by simpa using (show (!Yy l0 l1) = true by assumption)])), (by rw [show (VC l0 l1) = l0 from by (unfold VC; (rw [show Yy l0 l1 = false by simpa using (show (!Yy l0 l1) = true by assumption)]); first | rfl | simp)]; exact h0)⟩, S⟩
 ·have hle := Yi (l := l0) (m := l1) (by (simpa using (show (!Yy l0 l1) = false by assumption)))
  refine Qh (T_n (Qb (Qa (S_m E rfl rfl fun _ E1 => S_m E1 rfl rfl fun _ E2 => S_v E2 rfl (Qp E2 rfl T22 h0.len) rfl fun _ E3 => S_m E3 rfl rfl fun _ E4 => S_v E4 rfl (Qp E4 rfl T22 h1.len) rfl fun _ E5 => S_v E5 rfl (Jg (m := (((l0).length - ((l1).length) : Nat) : Int)) E5 rfl rfl (by omega) (by omega)) rfl ?_))))
  clear E a E1 E2 E3 E4 E5; intro a E
  obtain ⟨v_3, sv_3, hv_3⟩ := h0.subv 0 ((l0).length - ((l1).length)) (by omega) (by omega)
  simp only [List.drop_zero] at hv_3
  replace hv_3 : RdI M_1 v_3 ((l0).take ((l0).length - ((l1).length))) := hv_3
  refine S_v E rfl (Jd E rfl rfl T22 sv_3 (by omega)) rfl fun _ E1 => S_a E1 rfl rfl fun _ E2 => S_a E2 rfl rfl ?_
  clear E a E1 E2; intro a E
  refine Qc (T_n (Qe ?_))
  exact Jt E Tryz.results112 rfl rfl ⟨_, rfl, M_1, hM_1, ⟨_, (by (rw [show Yy l0 l1 = true by simpa using (show (!Yy l0 l1) = false by assumption)])), (RdS.eqL hv_3 (by (unfold VC; (rw [show Yy l0 l1 = true by simpa using (show (!Yy l0 l1) = false by assumption)]); first | rfl | simp)))⟩, S⟩
theorem Gd {M : Hp} {v0 : Value} {l0 : List (List Int)} (h0 : Jy M v0 l0) (hb : total l0 ≤ 1000000000) :
  Pu Tryz.prog (.func (.func 125) #[] #[]) M [v0] (fun r M' => RdI M' r ((l0).flatten)) := by
 refine Qk Tryz.func125 rfl Tryz.ntmps125 rfl Tryz.call125 ?_
 intro a w M1 H hM1 S E
 replace h0 := h0.le hM1
 have b0 := h0.bound
 refine Qb (Qa (S_a E rfl rfl fun _ E1 => Qc (T_n (Qb (Qa (S_a E1 rfl rfl fun _ E2 => Qc (T_n (Qb (Qb (Qa (S_m E2 rfl rfl fun _ E3 => S_v E3 rfl (Qp E3 rfl T74 h0.len) rfl fun _ E4 => S_m E4 rfl rfl ?_)))))))))))
 clear E a E1 E2 E3 E4; intro a E
 refine Qc (T_n (Qi ?_))
 replace S := (S.ownNil (e := 3) (sz := 1)).made0
 replace S := S.re1 (l' := (l0.take 0).flatten) (by (simp; done))
 refine Qx (γ := Nat) (fun (k : Nat) a w => ∃ (M_2 : Hp) (u3 : Value), Hp.le M1 M_2 ∧ St w M_2 (QR 3 u3 ((l0.take k).flatten) :: H) ∧ Env a 17 [] [(3, u3), (6, v0), (7, .int .i64 (((l0).length : Nat) : Int)), (8, .int .i64 ((k : Nat) : Int))] ∧ (k ≤ (l0).length)) (fun k => ((l0).length) - k) 0 ⟨M1, _, Hp.le.refl _, S, E.keep ⟨rfl, rfl, rfl, rfl, trivial⟩, by (omega)⟩ ?_
 try clear E
 try clear S
 try clear a
 try clear w
 rintro k a w ⟨M_2, u3, hM_2, S, E, hL0_0⟩
 replace h0 := h0.le hM_2
 have ht := QO l0 k; have hf := Zg (l0.take k)
 refine Qb (Qa (S_v E rfl (QG E rfl rfl) rfl ?_))
 clear E a; intro a E
 refine Qc (T_n (Qb ?_))
 refine Qn E rfl (fun hc_3 => ?_) (fun hc_3 => ?_)
 ·refine Qh (T_n (Qb (Qi (Qb (Qa ?_)))))
  obtain ⟨x_4, hx_4⟩ : ∃ x, (l0)[k]? = some x := ⟨_, List.getElem?_eq_getElem (by omega)⟩
  obtain ⟨p_5, u_6, hp_5, qp_5, hu_6⟩ := h0.at hx_4
  have bu_6 := hu_6.bound
  refine S_v E rfl (QB E rfl rfl T74 hp_5 rfl) rfl fun _ E1 => S_v E1 rfl (Qj E1 rfl Tryz.isAgg22 S.imm qp_5) rfl fun _ E2 => S_a E2 rfl rfl fun _ E3 => Qc (T_n (Qa (S_m E3 rfl rfl fun _ E4 => S_m E4 rfl rfl ?_)))
  clear E a E1 E2 E3 E4; intro a E
  refine S_x (QJ (xs := (l0.take k).flatten) E S rfl rfl rfl T22 hu_6 (by (have ht2 := QO l0 (k+1); rw [Zi (by assumption)] at ht2; omega)) ?_)
  clear E a S; rintro a w v_7 E S
  refine S_a E rfl rfl fun _ E1 => Qc (B_n (T_n (Qa (S_v E1 rfl (Qq (m := ((k + 1 : Nat) : Int)) E1 rfl rfl (by omega) (by omega)) rfl fun _ E2 => S_m E2 rfl rfl ?_))))
  clear E a E1 E2; intro a E
  refine Qc (T_n ?_)
  replace S := S.re1 (l' := (l0.take (k + 1)).flatten) (by (rw [Vh (by assumption)]; done))
  exact ⟨k + 1, ⟨M_2, _, hM_2, S, E.keep ⟨rfl, rfl, rfl, rfl, trivial⟩, by (omega)⟩, by omega⟩
 ·refine Qt (T_x (T_x (B_x (T_n (Qb (Qa (S_m E rfl rfl fun _ E1 => S_a E1 rfl rfl ?_)))))))
  clear E a E1; intro a E
  refine Qc (T_n (Qe ?_))
  have S0 := S; clear S
  obtain ⟨M_8, hM_8, hz_9, S⟩ := S0.freezeI (by (have ht := QO l0 k; rw [Zg]; omega))
  clear S0
  exact Qg E Tryz.results125 rfl ⟨_, rfl, M_8, (hM_2.trans hM_8), (RdS.eqL hz_9 (by (rw [List.take_of_length_le (by omega)]; done))), S⟩
theorem spec_Union {M : Hp} {v0 : Value} {l0 : List (List Int)} (h0 : Jy M v0 l0) (hb : total l0 ≤ 1000000000) (hrr : (∀ x ∈ l0.flatten, -9223372036854775808 ≤ x ∧ x ≤ 9223372036854775807)) :
  Pu Tryz.prog (.func (.func 115) #[] #[]) M [v0] (fun r M' => RdI M' r (QC (l0).flatten)) := by
 refine Qk Tryz.func115 rfl Tryz.ntmps115 rfl Tryz.call115 ?_
 intro a w M1 H hM1 S E
 replace h0 := h0.le hM1
 refine Qb (Qa (S_a E rfl rfl fun _ E1 => Qc (T_n (Qb (Qa (S_m E1 rfl rfl ?_))))))
 clear E a E1; intro a E
 refine S_x (Qr E S rfl rfl rfl (Gd h0 (by assumption)) (Hp.le.refl _) ?_)
 clear E a S; rintro a v_2 w M_1 hM_1 hv_2 S E
 refine S_x (Qr E S rfl rfl rfl (Wr hv_2 (by assumption) (by (rw [Zg]; omega))) (Hp.le.refl _) ?_)
 clear E a S; rintro a v_4 w M_3 hM_3 hv_4 S E
 refine S_a E rfl rfl ?_
 clear E a; intro a E
 refine Qc (T_n (Qe ?_))
 exact Qg E Tryz.results115 rfl ⟨_, rfl, M_3, (hM_1.trans hM_3), (RdS.eqL hv_4 (by (rfl))), S⟩
theorem UD {M : Hp} {v0 v1 : Value} {l0 l1 : List Int} (h0 : RdI M v0 l0) (h1 : RdI M v1 l1) (hb : l0.length ≤ 1000000000000) (hb1 : l1.length ≤ 1000000000000) (hr0 : (∀ x ∈ l0, -9223372036854775808 ≤ x ∧ x ≤ 9223372036854775807)) (hr1 : (∀ x ∈ l1, -9223372036854775808 ≤ x ∧ x ≤ 9223372036854775807)) :
  Pu Tryz.prog (.func (.func 116) #[] #[]) M [v0, v1] (fun r M' => ∃ t0 t1, r = .tuple #[t0, t1] ∧ RdI M' t0 ((l0).filter (fun x => !decide (x ∈ l1))) ∧ RdI M' t1 ((l1).filter (fun x => !decide (x ∈ l0)))) := by
 refine Qk Tryz.func116 rfl Tryz.ntmps116 rfl Tryz.call116 ?_
 intro a w M1 H hM1 S E
 replace h0 := h0.le hM1
 replace h1 := h1.le hM1
 have b0 := h0.bound
 have b1 := h1.bound
 refine Qb (Qa (S_a E rfl rfl fun _ E1 => S_a E1 rfl rfl fun _ E2 => Qc (T_n (Qb (Qa (S_m E2 rfl rfl fun _ E3 => S_m E3 rfl rfl ?_))))))
 clear E a E1 E2 E3; intro a E
 refine S_x (Qr E S rfl rfl rfl (Vd h0 h1 (by (omega)) (by assumption)) (Hp.le.refl _) ?_)
 clear E a S; rintro a v_2 w M_1 hM_1 hv_2 S E
 replace h0 := h0.le hM_1
 replace h1 := h1.le hM_1
 refine S_m E rfl rfl fun _ E1 => S_m E1 rfl rfl ?_
 clear E a E1; intro a E
 refine S_x (Qr E S rfl rfl rfl (Vd h1 h0 (by (omega)) (by assumption)) (Hp.le.refl _) ?_)
 clear E a S; rintro a v_4 w M_3 hM_3 hv_4 S E
 replace hv_2 := hv_2.le hM_3
 refine S_a E rfl rfl fun _ E1 => S_a E1 rfl rfl ?_
 clear E a E1; intro a E
 refine Qc (T_n (Qe ?_))
 exact Jt E Tryz.results116 rfl rfl ⟨_, rfl, M_3, (hM_1.trans hM_3), ⟨_, _, rfl, hv_2, hv_4⟩, S⟩
end Go.Proofs.YtgceicmfefpngaaGreat.wFnScript
