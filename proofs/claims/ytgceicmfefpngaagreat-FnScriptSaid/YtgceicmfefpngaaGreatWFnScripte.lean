/- Walks through the functions that laws.FnScript reaches: what each computes; no conditions beyond what each theorem states. -/
import Derived.Test.YtgceicmfefpngaaGreatWFnScriptd
set_option linter.unusedVariables false
set_option linter.unusedSimpArgs false
namespace Go.Proofs.YtgceicmfefpngaaGreat.wFnScript
open Go Go.Sl
set_option maxRecDepth 100000
set_option maxHeartbeats 4000000
theorem lo_Union {M : Hp} {v0 : Value} {l0 : List (List Int)} (h0 : Jy M v0 l0) (hb : total l0 ≤ 1000000000) :
  Pu Tryz.prog (.func (.func 252) #[] #[]) M [v0] (fun r M' => RdI M' r (QC (l0).flatten)) := by
 refine Qk Tryz.func252 rfl Tryz.ntmps252 rfl Tryz.call252 ?_
 intro a w M1 H hM1 S E
 replace h0 := h0.le hM1
 have b0 := h0.bound
 refine Qb (Qa (S_a E rfl rfl fun _ E1 => Qc (T_n (Qb (Qa (S_a E1 rfl rfl fun _ E2 => Qc (T_n (Qb (Qb (Qa (S_m E2 rfl rfl fun _ E3 => S_v E3 rfl (Qp E3 rfl T74 h0.len) rfl fun _ E4 => S_m E4 rfl rfl ?_)))))))))))
 clear E a E1 E2 E3 E4; intro a E
 refine Qc (T_n (Qi ?_))
 refine Qx (γ := Nat) (fun (k : Nat) a w => ∃ (M_1 : Hp), Hp.le M1 M_1 ∧ St w M_1 (H) ∧ Env a 76 [] [(0, v0), (3, .int .i64 ((total (l0.take k) : Nat) : Int)), (12, v0), (13, .int .i64 (((l0).length : Nat) : Int)), (14, .int .i64 ((k : Nat) : Int))] ∧ (k ≤ (l0).length)) (fun k => ((l0).length) - k) 0 ⟨M1, Hp.le.refl _, S, E.keep ⟨rfl, QM (i := 0) rfl (by (rfl)), rfl, rfl, rfl, trivial⟩, by (omega)⟩ ?_
 try clear E
 try clear S
 try clear a
 try clear w
 rintro k a w ⟨M_1, hM_1, S, E, hL0_0⟩
 replace h0 := h0.le hM_1
 have ht := QO l0 k
 refine Qb (Qa (S_v E rfl (QG E rfl rfl) rfl ?_))
 clear E a; intro a E
 refine Qc (T_n (Qb ?_))
 refine Qn E rfl (fun hc_2 => ?_) (fun hc_2 => ?_)
 ·refine Qh (T_n (Qb (Qi (Qb (Qa ?_)))))
  obtain ⟨x_3, hx_3⟩ : ∃ x, (l0)[k]? = some x := ⟨_, List.getElem?_eq_getElem (by omega)⟩
  obtain ⟨p_4, u_5, hp_4, qp_4, hu_5⟩ := h0.at hx_3
  have bu_5 := hu_5.bound
  refine S_v E rfl (QB E rfl rfl T74 hp_4 rfl) rfl fun _ E1 => S_v E1 rfl (Qj E1 rfl Tryz.isAgg22 S.imm qp_4) rfl fun _ E2 => S_a E2 rfl rfl fun _ E3 => Qc (T_n (Qa (S_m E3 rfl rfl fun _ E4 => S_m E4 rfl rfl fun _ E5 => S_v E5 rfl (Qp E5 rfl T22 hu_5.len) rfl ?_)))
  clear E a E1 E2 E3 E4 E5; intro a E
  refine S_v E rfl (Qq (m := ((total (l0.take k) + (x_3).length : Nat) : Int)) E rfl rfl (by omega) (by omega)) rfl fun _ E1 => S_a E1 rfl rfl fun _ E2 => Qc (B_n (T_n (Qa (S_v E2 rfl (Qq (m := ((k + 1 : Nat) : Int)) E2 rfl rfl (by omega) (by omega)) rfl fun _ E3 => S_m E3 rfl rfl ?_))))
  clear E a E1 E2 E3; intro a E
  refine Qc (T_n ?_)
  exact ⟨k + 1, ⟨M_1, hM_1, S, E.keep ⟨rfl, QM (i := total (l0.take k) + (x_3).length) rfl (by (rw [Zi (by assumption)])), rfl, rfl, rfl, trivial⟩, by (omega)⟩, by omega⟩
 ·refine Qt (T_x (T_x (B_x (T_n (Qb (Qa (S_m E rfl rfl ?_)))))))
  clear E a; intro a E
  refine S_x (Jf (k := total (l0.take k)) E S rfl rfl rfl T22 rfl (by omega) (by (have ht := QO l0 k; omega)) (by (have ht := QO l0 k; omega)) ?_)
  clear E a S; rintro a w v_6 E S
  replace S := S.made0
  refine S_a E rfl rfl fun _ E1 => Qc (T_n (Qb (Qa (S_m E1 rfl rfl ?_))))
  clear E a E1; intro a E
  refine S_x (ZB E S rfl Yg rfl ?_)
  clear E a S; rintro a w b_7 E S
  replace S : St w M_1 (Zs b_7 ([] : List Int) :: _) := S
  refine S_a E rfl rfl fun _ E1 => Qc (T_n (Qb (Qb (Qa (S_m E1 rfl rfl fun _ E2 => S_v E2 rfl (Qp E2 rfl T74 h0.len) rfl fun _ E3 => S_m E3 rfl rfl ?_)))))
  clear E a E1 E2 E3; intro a E
  refine Qc (T_n (Qi ?_))
  replace S := S.front1
  replace S := S.front1
  replace S := S.reM (L' := (Sl.encS (QC (l0.take 0).flatten))) (congrArg Sl.encS (show ([] : List Int) = QC (l0.take 0).flatten by first | rfl | (simp [QC]; done) | (rw [yw (j := j) (by assumption) (by omega)]; done)))
  replace S := S.front1
  replace S := S.re1 (l' := QC (l0.take 0).flatten) (by rfl)
  refine Qx (γ := Nat) (fun (k : Nat) a w => ∃ (M_8 : Hp) (u6 : Value), Hp.le M_1 M_8 ∧ St w M_8 (QR 3 u6 (QC (l0.take k).flatten) :: Zs b_7 (QC (l0.take k).flatten) :: H) ∧ Env a 76 [] [(0, v0), (6, u6), (7, .map (some b_7)), (28, .int .i64 (((l0).length : Nat) : Int)), (29, .int .i64 ((k : Nat) : Int))] ∧ (k ≤ (l0).length)) (fun k => ((l0).length) - k) 0 ⟨M_1, _, Hp.le.refl _, S, E.keep ⟨rfl, rfl, rfl, rfl, rfl, trivial⟩, by (omega)⟩ ?_
  try clear E
  try clear S
  try clear a
  try clear w
  rintro k a w ⟨M_8, u6, hM_8, S, E, hL1_0⟩
  replace h0 := h0.le hM_8
  have hkl := yN l0 k
  refine Qb (Qa (S_v E rfl (QG E rfl rfl) rfl ?_))
  clear E a; intro a E
  refine Qc (T_n (Qb ?_))
  refine Qn E rfl (fun hc_9 => ?_) (fun hc_9 => ?_)
  ·refine Qh (T_n (Qb (Qi (Qb (Qa (S_m E rfl rfl fun _ E1 => S_a E1 rfl rfl fun _ E2 => Qc (T_n (Qb (Qa (S_m E2 rfl rfl fun _ E3 => S_m E3 rfl rfl ?_))))))))))
   clear E a E1 E2 E3; intro a E
   obtain ⟨x_10, hx_10⟩ : ∃ x, (l0)[k]? = some x := ⟨_, List.getElem?_eq_getElem (by omega)⟩
   obtain ⟨p_11, u_12, hp_11, qp_11, hu_12⟩ := h0.at hx_10
   have bu_12 := hu_12.bound
   refine S_v E rfl (QB E rfl rfl T74 hp_11 rfl) rfl fun _ E1 => S_v E1 rfl (Qj E1 rfl Tryz.isAgg22 S.imm qp_11) rfl fun _ E2 => S_v E2 rfl (Qp E2 rfl T22 hu_12.len) rfl fun _ E3 => S_m E3 rfl rfl ?_
   clear E a E1 E2 E3; intro a E
   refine Qc (T_n (Qi ?_))
   replace S := S.front1
   replace S := S.front1
   replace S := S.front1
   replace S := S.reM (L' := (Sl.encS (QC ((l0.take k).flatten ++ (l0[k]?.getD []).take 0)))) (congrArg Sl.encS (show QC (l0.take k).flatten = QC ((l0.take k).flatten ++ (l0[k]?.getD []).take 0) by ((simp; done))))
   replace S := S.front1
   replace S := S.re1 (l' := QC ((l0.take k).flatten ++ (l0[k]?.getD []).take 0)) (by ((simp; done)))
   refine Qx (γ := Nat) (fun (j : Nat) a w => ∃ (M_13 : Hp) (u6 : Value), Hp.le M_8 M_13 ∧ St w M_13 (QR 3 u6 (QC ((l0.take k).flatten ++ (l0[k]?.getD []).take j)) :: Zs b_7 (QC ((l0.take k).flatten ++ (l0[k]?.getD []).take j)) :: H) ∧ Env a 76 [] [(0, v0), (6, u6), (7, .map (some b_7)), (8, .int .i64 ((k : Nat) : Int)), (28, .int .i64 (((l0).length : Nat) : Int)), (29, .int .i64 ((k : Nat) : Int)), (36, .int .i64 (((x_10).length : Nat) : Int)), (37, .int .i64 ((j : Nat) : Int))] ∧ (j ≤ (x_10).length)) (fun j => ((x_10).length) - j) 0 ⟨M_8, _, Hp.le.refl _, S, E.keep ⟨rfl, rfl, rfl, rfl, rfl, rfl, rfl, rfl, trivial⟩, by (omega)⟩ ?_
   try clear E
   try clear S
   try clear a
   try clear w
   rintro j a w ⟨M_13, u6, hM_13, S, E, hL2_0⟩
   replace h0 := h0.le hM_13
   have hkl := keyU_le l0 k j
   refine Qb (Qa (S_v E rfl (QG E rfl rfl) rfl ?_))
   clear E a; intro a E
   refine Qc (T_n (Qb ?_))
   refine Qn E rfl (fun hc_14 => ?_) (fun hc_14 => ?_)
   ·refine Qh (T_n (Qb (Qi (Qb (Qa (S_m E rfl rfl fun _ E1 => S_a E1 rfl rfl fun _ E2 => Qc (T_n (Qb (Qa (S_m E2 rfl rfl fun _ E3 => S_m E3 rfl rfl fun _ E4 => S_m E4 rfl rfl ?_))))))))))
    clear E a E1 E2 E3 E4; intro a E
    obtain ⟨x_15, hx_15⟩ : ∃ x, (l0)[k]? = some x := ⟨_, List.getElem?_eq_getElem (by omega)⟩
    obtain ⟨p_16, u_17, hp_16, qp_16, hu_17⟩ := h0.at hx_15
    have bu_17 := hu_17.bound
    refine S_v E rfl (QB E rfl rfl T74 hp_16 rfl) rfl fun _ E1 => S_v E1 rfl (Qj E1 rfl Tryz.isAgg22 S.imm qp_16) rfl fun _ E2 => S_m E2 rfl rfl ?_
    clear E a E1 E2; intro a E
    obtain ⟨x_18, hx_18⟩ : ∃ x, (x_15)[j]? = some x := ⟨_, List.getElem?_eq_getElem (by (simp_all; done))⟩
    obtain ⟨p_19, hp_19, qp_19⟩ := hu_17.at hx_18
    refine S_v E rfl (QB E rfl rfl T22 hp_19 rfl) rfl fun _ E1 => S_v E1 rfl (Qj E1 rfl Tryz.isAgg3 S.imm qp_19) rfl ?_
    clear E a E1; intro a E
    replace S := S.front1
    refine S_x (ZF E S rfl Yg rfl rfl ?_)
    clear E a S; rintro a w E S
    replace S : St w M_13 (Zs b_7 (QC ((l0.take k).flatten ++ (l0[k]?.getD []).take j)) :: _) := S
    refine S_m E rfl rfl fun _ E1 => S_v E1 rfl (Qm E1 rfl rfl) rfl fun _ E2 => S_v E2 rfl (Qm E2 rfl rfl) rfl ?_
    clear E a E1 E2; intro a E
    refine S_x (Jp (cs := #[]) E S rfl Tryz.zeroValue117 rfl ?_)
    clear E a S; rintro a w b_20 E S
    refine Zr (Jz (us := []) E S rfl rfl (Tryz.sizeOf117 _) rfl (by intro u hu; cases hu) ?_)
    clear E a S; rintro a w E S
    replace S : St w M_13 (blk b_20 (.cells #[] 117) :: _) := S
    have S0 := S; clear S
    obtain ⟨M_21, hM_21, hb_22, S⟩ := S0.freezeB
    clear S0
    replace h0 := h0.le hM_21
    refine S_a E rfl rfl fun _ E1 => Qc (T_n (Qb (Qa (S_m E1 rfl rfl fun _ E2 => S_v E2 rfl (Zk E2 rfl) rfl ?_))))
    clear E a E1 E2; intro a E
    refine Qc (T_n ?_)
    refine QL E rfl (fun hc_23 => ?_) (fun hc_23 => ?_)
    ·refine Qb ?_
     refine Qa (S_m E rfl rfl fun _ E1 => S_m E1 rfl rfl fun _ E2 => S_m E2 rfl rfl ?_)
     clear E a E1 E2; intro a E
     obtain ⟨p_24, u_25, hp_24, qp_24, hu_25⟩ := h0.at hx_15
     have bu_25 := hu_25.bound
     refine S_v E rfl (QB E rfl rfl T74 hp_24 rfl) rfl fun _ E1 => S_v E1 rfl (Qj E1 rfl Tryz.isAgg22 S.imm qp_24) rfl fun _ E2 => S_m E2 rfl rfl ?_
     clear E a E1 E2; intro a E
     obtain ⟨p_26, hp_26, qp_26⟩ := hu_25.at hx_18
     refine S_v E rfl (QB E rfl rfl T22 hp_26 rfl) rfl fun _ E1 => S_v E1 rfl (Qj E1 rfl Tryz.isAgg3 S.imm qp_26) rfl fun _ E2 => S_v E2 rfl (VE (u := .agg #[]) (vs := []) E2 rfl (fun w => qQ  w)) rfl ?_
     clear E a E1 E2; intro a E
     refine Zr (Wz E S Yg rfl rfl rfl ?_)
     clear E a S; rintro a w E S
     refine Qc (T_n (Qa (S_m E rfl rfl fun _ E1 => S_m E1 rfl rfl fun _ E2 => S_m E2 rfl rfl ?_)))
     clear E a E1 E2; intro a E
     obtain ⟨p_27, u_28, hp_27, qp_27, hu_28⟩ := h0.at hx_15
     have bu_28 := hu_28.bound
     refine S_v E rfl (QB E rfl rfl T74 hp_27 rfl) rfl fun _ E1 => S_v E1 rfl (Qj E1 rfl Tryz.isAgg22 S.imm qp_27) rfl fun _ E2 => S_m E2 rfl rfl ?_
     clear E a E1 E2; intro a E
     obtain ⟨p_29, hp_29, qp_29⟩ := hu_28.at hx_18
     refine S_v E rfl (QB E rfl rfl T22 hp_29 rfl) rfl fun _ E1 => S_v E1 rfl (Qj E1 rfl Tryz.isAgg3 S.imm qp_29) rfl ?_
     clear E a E1; intro a E
     refine S_x (Qy (ys := [x_18]) E S rfl T22 rfl rfl rfl ?_)
     clear E a S; rintro a w v_30 E S
     replace S := S.front2
     replace S := S.front1
     refine S_x (QH (xs := QC ((l0.take k).flatten ++ (l0[k]?.getD []).take j)) (ys := [x_18]) E S rfl rfl rfl T22 (by (simp; omega)) ?_)
     clear E a S; rintro a w v_31 E S
     refine S_a E rfl rfl fun _ E1 => Qc (B_n (T_n (Qa (S_v E1 rfl (Qq (m := ((j + 1 : Nat) : Int)) E1 rfl rfl (by omega) (by omega)) rfl fun _ E2 => S_m E2 rfl rfl ?_))))
     clear E a E1 E2; intro a E
     refine Qc (T_n ?_)
     replace S := S.front1
     replace S := S.reM (L' := (Sl.encS (QC ((l0.take k).flatten ++ (l0[k]?.getD []).take (j + 1))))) (congrArg Sl.encS (show Ye (QC ((l0.take k).flatten ++ (l0[k]?.getD []).take j)) x_18 = QC ((l0.take k).flatten ++ (l0[k]?.getD []).take (j + 1)) by ((rw [Gg (by assumption) (by assumption), Ud]; done))))
     replace S := S.front1
     replace S := S.re1 (l' := QC ((l0.take k).flatten ++ (l0[k]?.getD []).take (j + 1))) (by ((rw [Gg (by assumption) (by assumption), Ud]; first | rfl | (unfold Ye; first | (rw [if_pos (by assumption)]; done) | (rw [if_neg (by assumption)]; done) | (rw [if_neg]; simp_all; done) | (rw [if_pos]; simp_all; done)))))
     exact ⟨j + 1, ⟨M_21, _, (hM_13.trans hM_21), S, E.keep ⟨rfl, rfl, rfl, rfl, rfl, rfl, rfl, rfl, trivial⟩, by (omega)⟩, by omega⟩
    ·refine Qh ?_
     refine B_n (T_n (Qa (S_v E rfl (Qq (m := ((j + 1 : Nat) : Int)) E rfl rfl (by omega) (by omega)) rfl fun _ E1 => S_m E1 rfl rfl ?_)))
     clear E a E1; intro a E
     refine Qc (T_n ?_)
     replace S := S.front1
     replace S := S.front1
     replace S := S.reM (L' := (Sl.encS (QC ((l0.take k).flatten ++ (l0[k]?.getD []).take (j + 1))))) (congrArg Sl.encS (show QC ((l0.take k).flatten ++ (l0[k]?.getD []).take j) = QC ((l0.take k).flatten ++ (l0[k]?.getD []).take (j + 1)) by ((rw [Gg (by assumption) (by assumption), Ud]; first | rfl | (unfold Ye; first | (rw [if_pos (by assumption)]; done) | (rw [if_neg (by assumption)]; done) | (rw [if_neg]; simp_all; done) | (rw [if_pos]; simp_all; done))))))
     replace S := S.front1
     replace S := S.re1 (l' := QC ((l0.take k).flatten ++ (l0[k]?.getD []).take (j + 1))) (by ((rw [Gg (by assumption) (by assumption), Ud]; first | rfl | (unfold Ye; first | (rw [if_pos (by assumption)]; done) | (rw [if_neg (by assumption)]; done) | (rw [if_neg]; simp_all; done) | (rw [if_pos]; simp_all; done)))))
     exact ⟨j + 1, ⟨M_21, _, (hM_13.trans hM_21), S, E.keep ⟨rfl, rfl, rfl, rfl, rfl, rfl, rfl, rfl, trivial⟩, by (omega)⟩, by omega⟩
   ·refine Qt (T_x (T_x (B_x (B_n (T_n (Qa (S_v E rfl (Qq (m := ((k + 1 : Nat) : Int)) E rfl rfl (by omega) (by omega)) rfl fun _ E1 => S_m E1 rfl rfl ?_)))))))
    clear E a E1; intro a E
    refine Qc (T_n ?_)
    replace S := S.front1
    replace S := S.reM (L' := (Sl.encS (QC (l0.take (k + 1)).flatten))) (congrArg Sl.encS (show QC ((l0.take k).flatten ++ (l0[k]?.getD []).take j) = QC (l0.take (k + 1)).flatten by first | rfl | (simp [QC]; done) | (rw [yw (j := j) (by assumption) (by omega)]; done)))
    replace S := S.front1
    replace S := S.re1 (l' := QC (l0.take (k + 1)).flatten) (by (rw [yw (j := j) (by assumption) (by omega)]; done))
    exact ⟨k + 1, ⟨M_13, _, (hM_8.trans hM_13), S, E.keep ⟨rfl, rfl, rfl, rfl, rfl, trivial⟩, by (omega)⟩, by omega⟩
  ·refine Qt (T_x (T_x (B_x (T_n (Qb (Qa (S_m E rfl rfl fun _ E1 => S_a E1 rfl rfl ?_)))))))
   clear E a E1; intro a E
   refine Qc (T_n (Qe ?_))
   have S0 := S; clear S
   obtain ⟨M_32, hM_32, hz_33, S⟩ := S0.freezeI (by (have hkl := yN l0 k; omega))
   clear S0
   exact Qg E Tryz.results252 rfl ⟨_, rfl, M_32, (hM_1.trans (hM_8.trans hM_32)), (RdS.eqL hz_33 (by (rw [List.take_of_length_le (by omega)]))), S.drop⟩
theorem impl_Union {M : Hp} {v0 : Value} {l0 : List (List Int)} (h0 : Jy M v0 l0) (hb : total l0 ≤ 1000000000) :
  Pu Tryz.prog (.func (.func 175) #[] #[]) M [v0] (fun r M' => RdI M' r (QC (l0).flatten)) := by
 refine Qk Tryz.func175 rfl Tryz.ntmps175 rfl Tryz.call175 ?_
 intro a w M1 H hM1 S E
 replace h0 := h0.le hM1
 have b0 := h0.bound
 have hul := yN l0 l0.length
 rw [List.take_of_length_le (Nat.le_refl _)] at hul
 refine Qb (Qa (S_a E rfl rfl fun _ E1 => Qc (T_n (Qb (Qa (S_m E1 rfl rfl ?_))))))
 clear E a E1; intro a E
 refine S_x (Qr E S rfl rfl rfl (lo_Union h0 (by assumption)) (Hp.le.refl _) ?_)
 clear E a S; rintro a v_2 w M_1 hM_1 hv_2 S E
 refine S_a E rfl rfl ?_
 clear E a; intro a E
 refine Qc (T_n (Qe ?_))
 exact Qg E Tryz.results175 rfl ⟨_, rfl, M_1, hM_1, hv_2, S⟩
theorem jz {M : Hp} {v0 v1 : Value} {l0 l1 : List Int} (h0 : RdI M v0 l0) (h1 : RdI M v1 l1)(hb : l0.length ≤ 1000000000000) (hc : l1.length ≤ 1000000000000) :
  Pu Tryz.prog (.func (.func 253) #[] #[]) M [v0, v1] (fun r M' => ∃ t0 t1, r = .tuple #[t0, t1] ∧ RdI M' t0 ((l0).filter (fun x => !decide (x ∈ l1))) ∧ RdI M' t1 ((l1).filter (fun x => !decide (x ∈ l0)))) := by
 refine Qk Tryz.func253 rfl Tryz.ntmps253 rfl Tryz.call253 ?_
 intro a w M1 H hM1 S E
 replace h0 := h0.le hM1
 replace h1 := h1.le hM1
 have b0 := h0.bound
 have b1 := h1.bound
 refine Qb (Qa (S_a E rfl rfl fun _ E1 => S_a E1 rfl rfl ?_))
 clear E a E1; intro a E
 refine Qc (T_n (Qb (Qa ?_)))
 refine S_x (Qy (ys := []) E S rfl T22 rfl rfl rfl ?_)
 clear E a S; rintro a w v_1 E S
 refine S_a E rfl rfl ?_
 clear E a; intro a E
 refine Qc (T_n (Qb (Qa ?_)))
 refine S_x (Qy (ys := []) E S rfl T22 rfl rfl rfl ?_)
 clear E a S; rintro a w v_2 E S
 refine S_a E rfl rfl fun _ E1 => Qc (T_n (Qb (Qa (S_m E1 rfl rfl ?_))))
 clear E a E1; intro a E
 refine S_x (Vv (p := []) E S rfl rfl rfl (ZO h0) (Hp.le.refl _) ?_)
 clear E a S; rintro a _ w M_3 _ hM_3 ⟨v_4, rfl, rfl⟩ S E
 replace S : St w M_3 (Zs v_4 (QC l0) :: _) := S
 replace h0 := h0.le hM_3
 replace h1 := h1.le hM_3
 refine S_a E rfl rfl fun _ E1 => Qc (T_n (Qb (Qa (S_m E1 rfl rfl ?_))))
 clear E a E1; intro a E
 refine S_x (Vv (p := []) E S rfl rfl rfl (ZO h1) (Hp.le.refl _) ?_)
 clear E a S; rintro a _ w M_5 _ hM_5 ⟨v_6, rfl, rfl⟩ S E
 replace S : St w M_5 (Zs v_6 (QC l1) :: _) := S
 replace h0 := h0.le hM_5
 replace h1 := h1.le hM_5
 refine S_a E rfl rfl fun _ E1 => Qc (T_n (Qb (Qb (Qa (S_m E1 rfl rfl fun _ E2 => S_v E2 rfl (Qp E2 rfl T22 h0.len) rfl fun _ E3 => S_m E3 rfl rfl ?_)))))
 clear E a E1 E2 E3; intro a E
 refine Qc (T_n (Qi ?_))
 replace S := S.front3
 replace S := S.re1 (l' := (l0.take 0).filter (fun x => !decide (x ∈ QC l1))) (by ((simp; done)))
 refine Qx (γ := Nat) (fun (k : Nat) a w => ∃ (M_7 : Hp) (u6 : Value), Hp.le M_5 M_7 ∧ St w M_7 (QR 3 u6 ((l0.take k).filter (fun x => !decide (x ∈ QC l1))) :: Zs v_6 (QC l1) :: Zs v_4 (QC l0) :: QR 3 v_2 ([] : List Int) :: H) ∧ Env a 72 [] [(0, v0), (1, v1), (6, u6), (7, v_2), (8, .map (some v_4)), (9, .map (some v_6)), (23, .int .i64 (((l0).length : Nat) : Int)), (24, .int .i64 ((k : Nat) : Int))] ∧ (k ≤ (l0).length)) (fun k => ((l0).length) - k) 0 ⟨M_5, _, Hp.le.refl _, S, E.keep ⟨rfl, rfl, rfl, rfl, rfl, rfl, rfl, rfl, trivial⟩, by (omega)⟩ ?_
 try clear E
 try clear S
 try clear a
 try clear w
 rintro k a w ⟨M_7, u6, hM_7, S, E, hL0_0⟩
 replace h0 := h0.le hM_7
 replace h1 := h1.le hM_7
 have wl := List.length_filter_le (fun x => !decide (x ∈ QC l1)) (l0.take k)
 refine Qb (Qa (S_v E rfl (QG E rfl rfl) rfl ?_))
 clear E a; intro a E
 refine Qc (T_n (Qb ?_))
 refine Qn E rfl (fun hc_8 => ?_) (fun hc_8 => ?_)
 ·refine Qh (T_n (Qb (Qi (Qb (Qa (S_m E rfl rfl fun _ E1 => S_a E1 rfl rfl fun _ E2 => Qc (T_n (Qb (Qa (S_m E2 rfl rfl fun _ E3 => S_m E3 rfl rfl fun _ E4 => S_m E4 rfl rfl ?_))))))))))
  clear E a E1 E2 E3 E4; intro a E
  obtain ⟨x_9, hx_9⟩ : ∃ x, (l0)[k]? = some x := ⟨_, List.getElem?_eq_getElem (by omega)⟩
  obtain ⟨p_10, hp_10, qp_10⟩ := h0.at hx_9
  refine S_v E rfl (QB E rfl rfl T22 hp_10 rfl) rfl fun _ E1 => S_v E1 rfl (Qj E1 rfl Tryz.isAgg3 S.imm qp_10) rfl ?_
  clear E a E1; intro a E
  replace S := S.front1
  refine S_x (ZF E S rfl Yg rfl rfl ?_)
  clear E a S; rintro a w E S
  replace S : St w M_7 (Zs v_6 (QC l1) :: _) := S
  refine S_m E rfl rfl fun _ E1 => S_v E1 rfl (Qm E1 rfl rfl) rfl fun _ E2 => S_v E2 rfl (Qm E2 rfl rfl) rfl ?_
  clear E a E1 E2; intro a E
  refine S_x (Jp (cs := #[]) E S rfl Tryz.zeroValue117 rfl ?_)
  clear E a S; rintro a w b_11 E S
  refine Zr (Jz (us := []) E S rfl rfl (Tryz.sizeOf117 _) rfl (by intro u hu; cases hu) ?_)
  clear E a S; rintro a w E S
  replace S : St w M_7 (blk b_11 (.cells #[] 117) :: _) := S
  have S0 := S; clear S
  obtain ⟨M_12, hM_12, hb_13, S⟩ := S0.freezeB
  clear S0
  replace h0 := h0.le hM_12
  replace h1 := h1.le hM_12
  refine S_a E rfl rfl fun _ E1 => Qc (T_n (Qb (Qa (S_m E1 rfl rfl fun _ E2 => S_v E2 rfl (Zk E2 rfl) rfl ?_))))
  clear E a E1 E2; intro a E
  refine Qc (T_n ?_)
  refine QL E rfl (fun hc_14 => ?_) (fun hc_14 => ?_)
  ·refine Qa ?_
   refine S_m E rfl rfl fun _ E1 => S_m E1 rfl rfl fun _ E2 => S_m E2 rfl rfl ?_
   clear E a E1 E2; intro a E
   obtain ⟨p_15, hp_15, qp_15⟩ := h0.at hx_9
   refine S_v E rfl (QB E rfl rfl T22 hp_15 rfl) rfl fun _ E1 => S_v E1 rfl (Qj E1 rfl Tryz.isAgg3 S.imm qp_15) rfl ?_
   clear E a E1; intro a E
   refine S_x (Qy (ys := [x_9]) E S rfl T22 rfl rfl rfl ?_)
   clear E a S; rintro a w v_16 E S
   replace S := S.front2
   replace S := S.front1
   refine S_x (QH (xs := (l0.take k).filter (fun x => !decide (x ∈ QC l1))) (ys := [x_9]) E S rfl rfl rfl T22 (by (simp at wl ⊢; omega)) ?_)
   clear E a S; rintro a w v_17 E S
   refine S_a E rfl rfl fun _ E1 => Qc (B_n (T_n (Qa (S_v E1 rfl (Qq (m := ((k + 1 : Nat) : Int)) E1 rfl rfl (by omega) (by omega)) rfl fun _ E2 => S_m E2 rfl rfl ?_))))
   clear E a E1 E2; intro a E
   refine Qc (T_n ?_)
   replace S := S.re1 (l' := (l0.take (k + 1)).filter (fun x => !decide (x ∈ QC l1))) (by ((rw [Zh (by assumption)]; first | (simp [*]; done) | (simp_all; done))))
   exact ⟨k + 1, ⟨M_12, _, (hM_7.trans hM_12), S, E.keep ⟨rfl, rfl, rfl, rfl, rfl, rfl, rfl, rfl, trivial⟩, by (omega)⟩, by omega⟩
  ·refine Qh ?_
   refine B_n (T_n (Qa (S_v E rfl (Qq (m := ((k + 1 : Nat) : Int)) E rfl rfl (by omega) (by omega)) rfl fun _ E1 => S_m E1 rfl rfl ?_)))
   clear E a E1; intro a E
   refine Qc (T_n ?_)
   replace S := S.front3
   replace S := S.front3
   replace S := S.front2
   replace S := S.front3
   replace S := S.re1 (l' := (l0.take (k + 1)).filter (fun x => !decide (x ∈ QC l1))) (by ((rw [Zh (by assumption)]; first | (simp [*]; done) | (simp_all; done))))
   exact ⟨k + 1, ⟨M_12, _, (hM_7.trans hM_12), S, E.keep ⟨rfl, rfl, rfl, rfl, rfl, rfl, rfl, rfl, trivial⟩, by (omega)⟩, by omega⟩
 ·refine Qt (T_x (T_x (B_x (T_n (Qb (Qb (Qa (S_m E rfl rfl fun _ E1 => S_v E1 rfl (Qp E1 rfl T22 h1.len) rfl fun _ E2 => S_m E2 rfl rfl ?_))))))))
  clear E a E1 E2; intro a E
  refine Qc (T_n (Qi ?_))
  replace S := S.front3
  replace S := S.re1 (l' := (l1.take 0).filter (fun x => !decide (x ∈ QC l0))) (by ((simp; done)))
  refine Qx (γ := Nat) (fun (j : Nat) a w => ∃ (M_18 : Hp) (u7 : Value), Hp.le M_7 M_18 ∧ St w M_18 (QR 3 u7 ((l1.take j).filter (fun x => !decide (x ∈ QC l0))) :: QR 3 u6 ((l0.take k).filter (fun x => !decide (x ∈ QC l1))) :: Zs v_6 (QC l1) :: Zs v_4 (QC l0) :: H) ∧ Env a 72 [] [(1, v1), (6, u6), (7, u7), (8, .map (some v_4)), (47, .int .i64 (((l1).length : Nat) : Int)), (48, .int .i64 ((j : Nat) : Int))] ∧ (j ≤ (l1).length)) (fun j => ((l1).length) - j) 0 ⟨M_7, _, Hp.le.refl _, S, E.keep ⟨rfl, rfl, rfl, rfl, rfl, rfl, trivial⟩, by (omega)⟩ ?_
  try clear E
  try clear S
  try clear a
  try clear w
  rintro j a w ⟨M_18, u7, hM_18, S, E, hL1_0⟩
  replace h1 := h1.le hM_18
  have wl := List.length_filter_le (fun x => !decide (x ∈ QC l0)) (l1.take j)
  refine Qb (Qa (S_v E rfl (QG E rfl rfl) rfl ?_))
  clear E a; intro a E
  refine Qc (T_n (Qb ?_))
  refine Qn E rfl (fun hc_19 => ?_) (fun hc_19 => ?_)
  ·refine Qh (T_n (Qb (Qi (Qb (Qa (S_m E rfl rfl fun _ E1 => S_a E1 rfl rfl fun _ E2 => Qc (T_n (Qb (Qa (S_m E2 rfl rfl fun _ E3 => S_m E3 rfl rfl fun _ E4 => S_m E4 rfl rfl ?_))))))))))
   clear E a E1 E2 E3 E4; intro a E
   obtain ⟨x_20, hx_20⟩ : ∃ x, (l1)[j]? = some x := ⟨_, List.getElem?_eq_getElem (by omega)⟩
   obtain ⟨p_21, hp_21, qp_21⟩ := h1.at hx_20
   refine S_v E rfl (QB E rfl rfl T22 hp_21 rfl) rfl fun _ E1 => S_v E1 rfl (Qj E1 rfl Tryz.isAgg3 S.imm qp_21) rfl ?_
   clear E a E1; intro a E
   replace S := S.front3
   refine S_x (ZF E S rfl Yg rfl rfl ?_)
   clear E a S; rintro a w E S
   replace S : St w M_18 (Zs v_4 (QC l0) :: _) := S
   refine S_m E rfl rfl fun _ E1 => S_v E1 rfl (Qm E1 rfl rfl) rfl fun _ E2 => S_v E2 rfl (Qm E2 rfl rfl) rfl ?_
   clear E a E1 E2; intro a E
   refine S_x (Jp (cs := #[]) E S rfl Tryz.zeroValue117 rfl ?_)
   clear E a S; rintro a w b_22 E S
   refine Zr (Jz (us := []) E S rfl rfl (Tryz.sizeOf117 _) rfl (by intro u hu; cases hu) ?_)
   clear E a S; rintro a w E S
   replace S : St w M_18 (blk b_22 (.cells #[] 117) :: _) := S
   have S0 := S; clear S
   obtain ⟨M_23, hM_23, hb_24, S⟩ := S0.freezeB
   clear S0
   replace h1 := h1.le hM_23
   refine S_a E rfl rfl fun _ E1 => Qc (T_n (Qb (Qa (S_m E1 rfl rfl fun _ E2 => S_v E2 rfl (Zk E2 rfl) rfl ?_))))
   clear E a E1 E2; intro a E
   refine Qc (T_n ?_)
   refine QL E rfl (fun hc_25 => ?_) (fun hc_25 => ?_)
   ·refine Qa ?_
    refine S_m E rfl rfl fun _ E1 => S_m E1 rfl rfl fun _ E2 => S_m E2 rfl rfl ?_
    clear E a E1 E2; intro a E
    obtain ⟨p_26, hp_26, qp_26⟩ := h1.at hx_20
    refine S_v E rfl (QB E rfl rfl T22 hp_26 rfl) rfl fun _ E1 => S_v E1 rfl (Qj E1 rfl Tryz.isAgg3 S.imm qp_26) rfl ?_
    clear E a E1; intro a E
    refine S_x (Qy (ys := [x_20]) E S rfl T22 rfl rfl rfl ?_)
    clear E a S; rintro a w v_27 E S
    replace S := S.front2
    replace S := S.front1
    refine S_x (QH (xs := (l1.take j).filter (fun x => !decide (x ∈ QC l0))) (ys := [x_20]) E S rfl rfl rfl T22 (by (simp at wl ⊢; omega)) ?_)
    clear E a S; rintro a w v_28 E S
    refine S_a E rfl rfl fun _ E1 => Qc (B_n (T_n (Qa (S_v E1 rfl (Qq (m := ((j + 1 : Nat) : Int)) E1 rfl rfl (by omega) (by omega)) rfl fun _ E2 => S_m E2 rfl rfl ?_))))
    clear E a E1 E2; intro a E
    refine Qc (T_n ?_)
    replace S := S.front1
    replace S := S.front3
    replace S := S.front3
    replace S := S.front3
    replace S := S.re1 (l' := (l1.take (j + 1)).filter (fun x => !decide (x ∈ QC l0))) (by ((rw [Zh (by assumption)]; first | (simp [*]; done) | (simp_all; done))))
    exact ⟨j + 1, ⟨M_23, _, (hM_18.trans hM_23), S, E.keep ⟨rfl, rfl, rfl, rfl, rfl, rfl, trivial⟩, by (omega)⟩, by omega⟩
   ·refine Qh ?_
    refine B_n (T_n (Qa (S_v E rfl (Qq (m := ((j + 1 : Nat) : Int)) E rfl rfl (by omega) (by omega)) rfl fun _ E1 => S_m E1 rfl rfl ?_)))
    clear E a E1; intro a E
    refine Qc (T_n ?_)
    replace S := S.front3
    replace S := S.front3
    replace S := S.front3
    replace S := S.re1 (l' := (l1.take (j + 1)).filter (fun x => !decide (x ∈ QC l0))) (by ((rw [Zh (by assumption)]; first | (simp [*]; done) | (simp_all; done))))
    exact ⟨j + 1, ⟨M_23, _, (hM_18.trans hM_23), S, E.keep ⟨rfl, rfl, rfl, rfl, rfl, rfl, trivial⟩, by (omega)⟩, by omega⟩
  ·refine Qt (T_x (T_x (B_x (T_n (Qb (Qa (S_m E rfl rfl fun _ E1 => S_m E1 rfl rfl fun _ E2 => S_a E2 rfl rfl fun _ E3 => S_a E3 rfl rfl ?_)))))))
   clear E a E1 E2 E3; intro a E
   refine Qc (T_n (Qe ?_))
   replace S := S.front1
   have S0 := S; clear S
   obtain ⟨M_29, hM_29, hz_30, S⟩ := S0.freezeI (by (have wl1 := List.length_filter_le (fun x => !decide (x ∈ QC l1)) (l0.take k); have wl2 := List.length_filter_le (fun x => !decide (x ∈ QC l0)) (l1.take j); simp at wl1 wl2 ⊢; omega))
   clear S0
   have S0 := S; clear S
   obtain ⟨M_31, hM_31, hz_32, S⟩ := S0.freezeI (by (have wl1 := List.length_filter_le (fun x => !decide (x ∈ QC l1)) (l0.take k); have wl2 := List.length_filter_le (fun x => !decide (x ∈ QC l0)) (l1.take j); simp at wl1 wl2 ⊢; omega))
   clear S0
   replace hz_30 := hz_30.le hM_31
   exact Jt E Tryz.results253 rfl rfl ⟨_, rfl, M_31, (hM_3.trans (hM_5.trans (hM_7.trans (hM_18.trans (hM_29.trans hM_31))))), ⟨_, _, rfl, (RdS.eqL hz_30 (by (rw [List.take_of_length_le (by omega)]; simp only [JZ]))), (RdS.eqL hz_32 (by (rw [List.take_of_length_le (by omega)]; simp only [JZ])))⟩, S.drop.drop⟩
theorem UG {M : Hp} {v0 v1 : Value} {l0 l1 : List Int} (h0 : RdI M v0 l0) (h1 : RdI M v1 l1)(hb : l0.length ≤ 1000000000000) (hc : l1.length ≤ 1000000000000) :
  Pu Tryz.prog (.func (.func 176) #[] #[]) M [v0, v1] (fun r M' => ∃ t0 t1, r = .tuple #[t0, t1] ∧ RdI M' t0 ((l0).filter (fun x => !decide (x ∈ l1))) ∧ RdI M' t1 ((l1).filter (fun x => !decide (x ∈ l0)))) := by
 refine Qk Tryz.func176 rfl Tryz.ntmps176 rfl Tryz.call176 ?_
 intro a w M1 H hM1 S E
 replace h0 := h0.le hM1
 replace h1 := h1.le hM1
 have b0 := h0.bound
 have b1 := h1.bound
 refine Qb (Qa (S_a E rfl rfl fun _ E1 => S_a E1 rfl rfl fun _ E2 => Qc (T_n (Qb (Qa (S_m E2 rfl rfl fun _ E3 => S_m E3 rfl rfl ?_))))))
 clear E a E1 E2 E3; intro a E
 refine S_x (Qr E S rfl rfl rfl (jz h0 h1 (by (omega)) (by (omega))) (Hp.le.refl _) ?_)
 clear E a S; rintro a _ w M_1 hM_1 ⟨v_2, v_3, rfl, hv_2, hv_3⟩ S E
 refine S_v E rfl (Qm E rfl rfl) rfl fun _ E1 => S_v E1 rfl (Qm E1 rfl rfl) rfl fun _ E2 => S_a E2 rfl rfl fun _ E3 => S_a E3 rfl rfl ?_
 clear E a E1 E2 E3; intro a E
 refine Qc (T_n (Qe ?_))
 exact Jt E Tryz.results176 rfl rfl ⟨_, rfl, M_1, hM_1, ⟨_, _, rfl, hv_2, hv_3⟩, S⟩
theorem jy {M : Hp} {v0 : Value} {l0 : List (List Int)} (h0 : Jy M v0 l0) (hb : total l0 ≤ 1000000000) :
  Pu Tryz.prog (.func (.func 254) #[] #[]) M [v0] (fun r M' => RdI M' r (WS l0)) := by
 refine Qk Tryz.func254 rfl Tryz.ntmps254 rfl Tryz.call254 ?_
 intro a w M1 H hM1 S E
 replace h0 := h0.le hM1
 have b0 := h0.bound
 have hmt := Gk l0
 refine Qb (Qa (S_a E rfl rfl fun _ E1 => Qc (T_n (Qb (Qb (Qa (S_m E1 rfl rfl fun _ E2 => S_v E2 rfl (Qp E2 rfl T74 h0.len) rfl fun _ E3 => S_v E3 rfl (Qv E3 rfl rfl) rfl ?_)))))))
 clear E a E1 E2 E3; intro a E
 refine Qc (T_n ?_)
 refine Qn E rfl (fun hc_1 => ?_) (fun hc_1 => ?_)
 ·refine Qb (Qa ?_)
  refine S_x (Qy (ys := []) E S rfl T22 rfl rfl rfl ?_)
  clear E a S; rintro a w v_2 E S
  refine S_a E rfl rfl ?_
  clear E a; intro a E
  refine Qc (T_n (Qe ?_))
  refine T_r ?_
  have S0 := S; clear S
  obtain ⟨M_3, hM_3, hz_4, S⟩ := S0.freezeI (by (first | omega | (simp; omega) | (simp; done) | (simp_all; omega) | grind))
  clear S0
  replace h0 := h0.le hM_3
  exact Qg E Tryz.results254 rfl ⟨_, rfl, M_3, hM_3, (RdS.eqL hz_4 (by have e := List.eq_nil_of_length_eq_zero (l := l0) (by omega); subst e; rfl)), S⟩
 ·refine Qh (T_n (Qb (Qa (S_a E rfl rfl fun _ E1 => Qc (T_n (Qb (Qa (S_a E1 rfl rfl fun _ E2 => Qc (T_n (Qb (Qb (Qa (S_m E2 rfl rfl fun _ E3 => S_v E3 rfl (Qp E3 rfl T74 h0.len) rfl fun _ E4 => S_m E4 rfl rfl ?_)))))))))))))
  clear E a E1 E2 E3 E4; intro a E
  refine Qc (T_n (Qi ?_))
  refine Qx (γ := Nat) (fun (k : Nat) a w => ∃ (M_5 : Hp), Hp.le M1 M_5 ∧ St w M_5 (H) ∧ Env a 70 [] [(0, v0), (3, .int .i64 ((maxLen (l0.take k) : Nat) : Int)), (4, .int .i64 ((total (l0.take k) : Nat) : Int)), (16, .int .i64 (((l0).length : Nat) : Int)), (17, .int .i64 ((k : Nat) : Int))] ∧ (k ≤ (l0).length) ∧ (0 < l0.length)) (fun k => ((l0).length) - k) 0 ⟨M1, Hp.le.refl _, S, E.keep ⟨rfl, QM (i := 0) rfl (by ((try clear S); (try clear E); first | assumption | omega | rfl | (simp; done) | (simp_all; done) | (simp [List.take_add_one, *]; done) | grind [List.take_add_one])), QM (i := 0) rfl (by ((try clear S); (try clear E); first | assumption | omega | rfl | (simp; done) | (simp_all; done) | (simp [List.take_add_one, *]; done) | grind [List.take_add_one])), rfl, rfl, trivial⟩, by ((try clear S); (try clear E); first | assumption | omega | rfl | (simp; done) | (simp_all; done) | (simp [List.take_add_one, *]; done) | grind [List.take_add_one]), by ((try clear S); (try clear E); first | assumption | omega | rfl | (simp; done) | (simp_all; done) | (simp [List.take_add_one, *]; done) | grind [List.take_add_one])⟩ ?_
  try clear E
  try clear S
  try clear a
  try clear w
  rintro k a w ⟨M_5, hM_5, S, E, hL0_0, hL0_1⟩
  replace h0 := h0.le hM_5
  have ht := QO l0 k
  refine Qb (Qa (S_v E rfl (QG E rfl rfl) rfl ?_))
  clear E a; intro a E
  refine Qc (T_n (Qb ?_))
  refine Qn E rfl (fun hc_6 => ?_) (fun hc_6 => ?_)
  ·refine Qh (T_n (Qb (Qi (Qb (Qa (S_m E rfl rfl fun _ E1 => S_a E1 rfl rfl fun _ E2 => Qc (T_n (Qb (Qa (S_m E2 rfl rfl fun _ E3 => S_m E3 rfl rfl ?_))))))))))
   clear E a E1 E2 E3; intro a E
   obtain ⟨x_7, hx_7⟩ : ∃ x, (l0)[k]? = some x := ⟨_, List.getElem?_eq_getElem (by first | omega | (simp; done) | (simp; omega) | (simp_all; omega))⟩
   obtain ⟨p_8, u_9, hp_8, qp_8, hu_9⟩ := h0.at hx_7
   have bu_9 := hu_9.bound
   refine S_v E rfl (QB E rfl rfl T74 hp_8 rfl) rfl fun _ E1 => S_v E1 rfl (Qj E1 rfl Tryz.isAgg22 S.imm qp_8) rfl fun _ E2 => S_v E2 rfl (Qp E2 rfl T22 hu_9.len) rfl fun _ E3 => S_a E3 rfl rfl fun _ E4 => Qc (T_n (Qb (Qa (S_m E4 rfl rfl fun _ E5 => S_m E5 rfl rfl ?_))))
   clear E a E1 E2 E3 E4 E5; intro a E
   refine S_v E rfl (Qq (m := ((total (l0.take k) + (x_7).length : Nat) : Int)) E rfl rfl (by (have ht2 := QO l0 (k+1); rw [Zi (by assumption)] at ht2; omega)) (by (have ht2 := QO l0 (k+1); rw [Zi (by assumption)] at ht2; omega))) rfl fun _ E1 => S_a E1 rfl rfl fun _ E2 => Qc (T_n (Qb (Qa (S_m E2 rfl rfl fun _ E3 => S_m E3 rfl rfl fun _ E4 => S_v E4 rfl (JT E4 rfl rfl) rfl ?_))))
   clear E a E1 E2 E3 E4; intro a E
   refine Qc (T_n ?_)
   refine Qn E rfl (fun hc_10 => ?_) (fun hc_10 => ?_)
   ·refine Qa (S_m E rfl rfl fun _ E1 => S_a E1 rfl rfl fun _ E2 => Qc (B_n (T_n (Qa (S_v E2 rfl (Qq (m := ((k + 1 : Nat) : Int)) E2 rfl rfl (by omega) (by omega)) rfl fun _ E3 => S_m E3 rfl rfl ?_)))))
    clear E a E1 E2 E3; intro a E
    refine Qc (T_n ?_)
    exact ⟨k + 1, ⟨M_5, hM_5, S, E.keep ⟨rfl, QM (i := (x_7).length) rfl (by (rw [qi (by assumption)]; omega)), QM (i := total (l0.take k) + (x_7).length) rfl (by (rw [Zi (by assumption)])), rfl, rfl, trivial⟩, by ((try clear S); (try clear E); first | assumption | omega | rfl | (simp; done) | (simp_all; done) | (simp [List.take_add_one, *]; done) | grind [List.take_add_one]), by ((try clear S); (try clear E); first | assumption | omega | rfl | (simp; done) | (simp_all; done) | (simp [List.take_add_one, *]; done) | grind [List.take_add_one])⟩, by omega⟩
   ·refine Qh (B_n (T_n (Qa (S_v E rfl (Qq (m := ((k + 1 : Nat) : Int)) E rfl rfl (by omega) (by omega)) rfl fun _ E1 => S_m E1 rfl rfl ?_))))
    clear E a E1; intro a E
    refine Qc (T_n ?_)
    exact ⟨k + 1, ⟨M_5, hM_5, S, E.keep ⟨rfl, QM (i := maxLen (l0.take k)) rfl (by (rw [qi (by assumption)]; omega)), QM (i := total (l0.take k) + (x_7).length) rfl (by (rw [Zi (by assumption)])), rfl, rfl, trivial⟩, by ((try clear S); (try clear E); first | assumption | omega | rfl | (simp; done) | (simp_all; done) | (simp [List.take_add_one, *]; done) | grind [List.take_add_one]), by ((try clear S); (try clear E); first | assumption | omega | rfl | (simp; done) | (simp_all; done) | (simp [List.take_add_one, *]; done) | grind [List.take_add_one])⟩, by omega⟩
  ·refine Qt (T_x (T_x (B_x (T_n (Qb (Qb (Qa (S_m E rfl rfl fun _ E1 => S_v E1 rfl (Qv E1 rfl rfl) rfl ?_))))))))
   clear E a E1; intro a E
   refine Qc (T_n ?_)
   refine Qn E rfl (fun hc_11 => ?_) (fun hc_11 => ?_)
   ·refine Qb (Qa ?_)
    refine S_x (Qy (ys := []) E S rfl T22 rfl rfl rfl ?_)
    clear E a S; rintro a w v_12 E S
    refine S_a E rfl rfl ?_
    clear E a; intro a E
    refine Qc (T_n (Qe ?_))
    refine T_r ?_
    have S0 := S; clear S
    obtain ⟨M_13, hM_13, hz_14, S⟩ := S0.freezeI (by (first | omega | (simp; omega) | (simp; done) | (simp_all; omega) | grind))
    clear S0
    replace h0 := h0.le hM_13
    exact Qg E Tryz.results254 rfl ⟨_, rfl, M_13, (hM_5.trans hM_13), (RdS.eqL hz_14 (by have e := WJ l0; have e2 : total l0 ≤ l0.length * 0 := total_le (fun x hx => (by have := Ub hx; rw [List.take_of_length_le (by omega)] at *; omega)); exact List.eq_nil_of_length_eq_zero (by omega))), S⟩
   ·refine Qh (T_n (Qb (Qa (S_m E rfl rfl ?_))))
    clear E a; intro a E
    refine S_x (Yk (k := total (l0.take k)) E S rfl rfl rfl T22 (by omega) (by omega) (by (have ht := QO l0 k; omega)) (by (have ht := QO l0 k; omega)) ?_)
    clear E a S; rintro a w v_15 E S
    replace S := S.madeI
    refine S_a E rfl rfl fun _ E1 => Qc (T_n (Qb (Qa (S_a E1 rfl rfl fun _ E2 => Qc (T_n (Qb (Qb (Qa (S_a E2 rfl rfl ?_)))))))))
    clear E a E1 E2; intro a E
    refine Qc (T_n (Qi ?_))
    replace S := S.re1 (l' := QU 0 l0 ++ List.replicate (total l0 - (QU 0 l0).length) 0) (by (try rw [Zq]); first | (simp [QU]; done) | (rw [show total (l0.take k) = total l0 by rw [List.take_of_length_le (by omega)]]; simp [QU]; done) | (rw [show JY i l0 = JY i (l0.take j) by rw [List.take_of_length_le (by omega)]]; done))
    refine Qx (γ := Nat) (fun (i : Nat) a w => ∃ (M_16 : Hp), Hp.le M_5 M_16 ∧ St w M_16 (QR 3 v_15 (QU i l0 ++ List.replicate (total l0 - (QU i l0).length) 0) :: H) ∧ Env a 70 [] [(0, v0), (3, .int .i64 ((maxLen (l0.take k) : Nat) : Int)), (7, v_15), (8, .int .i64 (((QU i l0).length : Nat) : Int)), (9, .int .i64 ((i : Nat) : Int))] ∧ (i ≤ maxLen (l0.take k)) ∧ (maxLen (l0.take k) = maxLen l0)) (fun i => (maxLen (l0.take k)) - i) 0 ⟨M_5, Hp.le.refl _, S, E.keep ⟨rfl, rfl, rfl, QM (i := 0) rfl (by ((try clear S); (try clear E); first | assumption | omega | rfl | (simp; done) | (simp_all; done) | (simp [List.take_add_one, *]; done) | grind [List.take_add_one])), rfl, trivial⟩, by ((try clear S); (try clear E); first | assumption | omega | rfl | (simp; done) | (simp_all; done) | (simp [List.take_add_one, *]; done) | grind [List.take_add_one]), by ((try clear S); (try clear E); first | assumption | omega | rfl | (simp; done) | (simp_all; done) | (simp [List.take_add_one, *]; done) | grind [List.take_add_one])⟩ ?_
    try clear E
    try clear S
    try clear a
    try clear w
    rintro i a w ⟨M_16, hM_16, S, E, hL1_0, hL1_1⟩
    replace h0 := h0.le hM_16
    refine Qb (Qb (Qa (S_m E rfl rfl fun _ E1 => S_m E1 rfl rfl fun _ E2 => S_v E2 rfl (QG E2 rfl rfl) rfl ?_)))
    clear E a E1 E2; intro a E
    refine Qc (T_n ?_)
    refine Qn E rfl (fun hc_17 => ?_) (fun hc_17 => ?_)
    ·refine Qh (T_n (Qb (Qi (Qb (Qa (S_m E rfl rfl fun _ E1 => S_v E1 rfl (Qp E1 rfl T74 h0.len) rfl fun _ E2 => S_m E2 rfl rfl ?_))))))
     clear E a E1 E2; intro a E
     refine Qc (T_n (Qi ?_))
     replace S := S.re1 (l' := (QU i l0 ++ JY i (l0.take 0)) ++ List.replicate (total l0 - (QU i l0 ++ JY i (l0.take 0)).length) 0) (by first | (simp [JY]; done) | (rw [Zv (by assumption), List.getElem?_eq_none (by omega)]; simp; done) | (rw [← List.length_append]; refine Gf ?_ ?_; rw [List.length_append]; exact ZP (by assumption) (by omega); rw [Zv (by assumption)]; simp [*]; done))
     refine Qx (γ := Nat) (fun (j : Nat) a w => ∃ (M_18 : Hp), Hp.le M_16 M_18 ∧ St w M_18 (QR 3 v_15 ((QU i l0 ++ JY i (l0.take j)) ++ List.replicate (total l0 - (QU i l0 ++ JY i (l0.take j)).length) 0) :: H) ∧ Env a 70 [] [(0, v0), (3, .int .i64 ((maxLen (l0.take k) : Nat) : Int)), (7, v_15), (8, .int .i64 (((QU i l0).length + (JY i (l0.take j)).length : Nat) : Int)), (9, .int .i64 ((i : Nat) : Int)), (44, .int .i64 (((l0).length : Nat) : Int)), (45, .int .i64 ((j : Nat) : Int))] ∧ (j ≤ (l0).length)) (fun j => ((l0).length) - j) 0 ⟨M_16, Hp.le.refl _, S, E.keep ⟨rfl, rfl, rfl, QM (i := (QU i l0).length) rfl (by ((try clear S); (try clear E); first | assumption | omega | rfl | (simp; done) | (simp_all; done) | (simp [List.take_add_one, *]; done) | grind [List.take_add_one])), rfl, rfl, rfl, trivial⟩, by ((try clear S); (try clear E); first | assumption | omega | rfl | (simp; done) | (simp_all; done) | (simp [List.take_add_one, *]; done) | grind [List.take_add_one])⟩ ?_
     try clear E
     try clear S
     try clear a
     try clear w
     rintro j a w ⟨M_18, hM_18, S, E, hL2_0⟩
     replace h0 := h0.le hM_18
     have ht := Uq i j l0
     refine Qb (Qa (S_v E rfl (QG E rfl rfl) rfl ?_))
     clear E a; intro a E
     refine Qc (T_n (Qb ?_))
     refine Qn E rfl (fun hc_19 => ?_) (fun hc_19 => ?_)
     ·refine Qh (T_n (Qb (Qi (Qb (Qa (S_m E rfl rfl fun _ E1 => S_a E1 rfl rfl fun _ E2 => Qc (T_n (Qb (Qb (Qa (S_m E2 rfl rfl fun _ E3 => S_m E3 rfl rfl ?_)))))))))))
      clear E a E1 E2 E3; intro a E
      obtain ⟨x_20, hx_20⟩ : ∃ x, (l0)[j]? = some x := ⟨_, List.getElem?_eq_getElem (by first | omega | (simp; done) | (simp; omega) | (simp_all; omega))⟩
      obtain ⟨p_21, u_22, hp_21, qp_21, hu_22⟩ := h0.at hx_20
      have bu_22 := hu_22.bound
      refine S_v E rfl (QB E rfl rfl T74 hp_21 rfl) rfl fun _ E1 => S_v E1 rfl (Qj E1 rfl Tryz.isAgg22 S.imm qp_21) rfl fun _ E2 => S_v E2 rfl (Qp E2 rfl T22 hu_22.len) rfl fun _ E3 => S_v E3 rfl (Jg (m := (((x_20).length : Nat) : Int) - 1) E3 rfl rfl (by omega) (by omega)) rfl fun _ E4 => S_m E4 rfl rfl fun _ E5 => S_v E5 rfl (QG E5 rfl rfl) rfl ?_
      clear E a E1 E2 E3 E4 E5; intro a E
      refine Qc (T_n ?_)
      refine Qn E rfl (fun hc_23 => ?_) (fun hc_23 => ?_)
      ·refine Qt (T_x (B_x (T_n (Qa (S_v E rfl (Qq (m := ((j + 1 : Nat) : Int)) E rfl rfl (by omega) (by omega)) rfl fun _ E1 => S_m E1 rfl rfl ?_)))))
       clear E a E1; intro a E
       refine Qc (T_n ?_)
       replace S := S.re1 (l' := (QU i l0 ++ JY i (l0.take (j + 1))) ++ List.replicate (total l0 - (QU i l0 ++ JY i (l0.take (j + 1))).length) 0) (by first | (simp [JY]; done) | (rw [Zv (by assumption), List.getElem?_eq_none (by omega)]; simp; done) | (rw [← List.length_append]; refine Gf ?_ ?_; rw [List.length_append]; exact ZP (by assumption) (by omega); rw [Zv (by assumption)]; simp [*]; done))
       exact ⟨j + 1, ⟨M_18, hM_18, S, E.keep ⟨rfl, rfl, rfl, QM (i := (QU i l0).length + (JY i (l0.take j)).length) rfl (by rw [Zv (by assumption), List.length_append]; first | (rw [List.getElem?_eq_none (by omega)]; simp; done) | (simp [*]; omega)), rfl, rfl, rfl, trivial⟩, by ((try clear S); (try clear E); first | assumption | omega | rfl | (simp; done) | (simp_all; done) | (simp [List.take_add_one, *]; done) | grind [List.take_add_one])⟩, by omega⟩
      ·refine Qh (T_n (Qb (Qa (S_m E rfl rfl fun _ E1 => S_m E1 rfl rfl fun _ E2 => S_m E2 rfl rfl fun _ E3 => S_m E3 rfl rfl ?_))))
       clear E a E1 E2 E3; intro a E
       obtain ⟨p_24, u_25, hp_24, qp_24, hu_25⟩ := h0.at hx_20
       have bu_25 := hu_25.bound
       refine S_v E rfl (QB E rfl rfl T74 hp_24 rfl) rfl fun _ E1 => S_v E1 rfl (Qj E1 rfl Tryz.isAgg22 S.imm qp_24) rfl fun _ E2 => S_m E2 rfl rfl ?_
       clear E a E1 E2; intro a E
       obtain ⟨x_26, hx_26⟩ : ∃ x, (x_20)[i]? = some x := ⟨_, List.getElem?_eq_getElem (by first | omega | (have hq := ZP (i := i) (j := j) (ll := l0) (by assumption) (by omega); simp; omega))⟩
       obtain ⟨p_27, hp_27, qp_27⟩ := hu_25.at hx_26
       refine S_v E rfl (QB E rfl rfl T22 hp_27 rfl) rfl fun _ E1 => S_v E1 rfl (Qj E1 rfl Tryz.isAgg3 S.imm qp_27) rfl ?_
       clear E a E1; intro a E
       obtain ⟨p_28, hp_28⟩ := S.ptrC (k := (QU i l0).length + (JY i (l0.take j)).length) (by first | omega | (have hq := ZP (i := i) (j := j) (ll := l0) (by assumption) (by omega); simp; omega))
       refine S_v E rfl (QB E rfl rfl T22 hp_28 rfl) rfl ?_
       clear E a; intro a E
       refine Zr (Vs E S rfl rfl (Tryz.sizeOf3 _) hp_28 ?_)
       clear E a S; rintro a w E S
       refine Qc (T_n (Qa (S_m E rfl rfl fun _ E1 => S_v E1 rfl (Qq (m := (((QU i l0).length + (JY i (l0.take j)).length + 1 : Nat) : Int)) E1 rfl rfl (by omega) (by omega)) rfl fun _ E2 => S_a E2 rfl rfl fun _ E3 => Qc (B_n (T_n (Qa (S_v E3 rfl (Qq (m := ((j + 1 : Nat) : Int)) E3 rfl rfl (by omega) (by omega)) rfl fun _ E4 => S_m E4 rfl rfl ?_)))))))
       clear E a E1 E2 E3 E4; intro a E
       refine Qc (T_n ?_)
       replace S := S.re1 (l' := (QU i l0 ++ JY i (l0.take (j + 1))) ++ List.replicate (total l0 - (QU i l0 ++ JY i (l0.take (j + 1))).length) 0) (by first | (simp [JY]; done) | (rw [Zv (by assumption), List.getElem?_eq_none (by omega)]; simp; done) | (rw [← List.length_append]; refine Gf ?_ ?_; rw [List.length_append]; exact ZP (by assumption) (by omega); rw [Zv (by assumption)]; simp [*]; done))
       exact ⟨j + 1, ⟨M_18, hM_18, S, E.keep ⟨rfl, rfl, rfl, QM (i := (QU i l0).length + (JY i (l0.take j)).length + 1) rfl (by rw [Zv (by assumption), List.length_append]; first | (rw [List.getElem?_eq_none (by omega)]; simp; done) | (simp [*]; omega)), rfl, rfl, rfl, trivial⟩, by ((try clear S); (try clear E); first | assumption | omega | rfl | (simp; done) | (simp_all; done) | (simp [List.take_add_one, *]; done) | grind [List.take_add_one])⟩, by omega⟩
     ·refine Qt (T_x (T_x (B_x (B_n (T_n (Qa (S_m E rfl rfl fun _ E1 => S_v E1 rfl (Qq (m := ((i + 1 : Nat) : Int)) E1 rfl rfl (by omega) (by omega)) rfl fun _ E2 => S_a E2 rfl rfl ?_)))))))
      clear E a E1 E2; intro a E
      refine Qc (T_n ?_)
      replace S := S.re1 (l' := QU (i + 1) l0 ++ List.replicate (total l0 - (QU (i + 1) l0).length) 0) (by (try rw [Zq]); first | (simp [QU]; done) | (rw [show total (l0.take k) = total l0 by rw [List.take_of_length_le (by omega)]]; simp [QU]; done) | (rw [show JY i l0 = JY i (l0.take j) by rw [List.take_of_length_le (by omega)]]; done))
      exact ⟨i + 1, ⟨M_18, (hM_16.trans hM_18), S, E.keep ⟨rfl, rfl, rfl, QM (i := (QU i l0).length + (JY i (l0.take j)).length) rfl (by (rw [Zq, List.length_append, show JY i l0 = JY i (l0.take j) by rw [List.take_of_length_le (by omega)]])), rfl, trivial⟩, by ((try clear S); (try clear E); first | assumption | omega | rfl | (simp; done) | (simp_all; done) | (simp [List.take_add_one, *]; done) | grind [List.take_add_one]), by ((try clear S); (try clear E); first | assumption | omega | rfl | (simp; done) | (simp_all; done) | (simp [List.take_add_one, *]; done) | grind [List.take_add_one])⟩, by omega⟩
    ·refine Qt (T_x (T_x (B_x (T_n (Qb (Qa (S_m E rfl rfl fun _ E1 => S_a E1 rfl rfl ?_)))))))
     clear E a E1; intro a E
     refine Qc (T_n (Qe ?_))
     have S0 := S; clear S
     obtain ⟨M_29, hM_29, hz_30, S⟩ := S0.freezeI (by (have hq := GO i l0; simp; omega))
     clear S0
     exact Qg E Tryz.results254 rfl ⟨_, rfl, M_29, (hM_5.trans (hM_16.trans hM_29)), (RdS.eqL hz_30 (by (have e := jY (ll := l0) (k := i) (by omega); have e2 := WJ l0; rw [e, e2]; simp))), S⟩
theorem qE {M : Hp} {v0 : Value} {l0 : List (List Int)} (h0 : Jy M v0 l0) (hb : total l0 ≤ 1000000000) :
  Pu Tryz.prog (.func (.func 177) #[] #[]) M [v0] (fun r M' => RdI M' r (WS l0)) := by
 refine Qk Tryz.func177 rfl Tryz.ntmps177 rfl Tryz.call177 ?_
 intro a w M1 H hM1 S E
 replace h0 := h0.le hM1
 have b0 := h0.bound
 refine Qb (Qa (S_a E rfl rfl fun _ E1 => Qc (T_n (Qb (Qa (S_m E1 rfl rfl ?_))))))
 clear E a E1; intro a E
 refine S_x (Qr E S rfl rfl rfl (jy h0 (by omega)) (Hp.le.refl _) ?_)
 clear E a S; rintro a v_2 w M_1 hM_1 hv_2 S E
 refine S_a E rfl rfl ?_
 clear E a; intro a E
 refine Qc (T_n (Qe ?_))
 exact Qg E Tryz.results177 rfl ⟨_, rfl, M_1, hM_1, hv_2, S⟩
theorem Wa {M : Hp} {v0 : Value} {l0 : List (List Int)} (h0 : PF0M Tryz.prog v0 M l0) :
  Pu Tryz.prog (.func (.func 255) #[] #[]) M [v0] (fun r M' => ∃ t0, r = .tuple #[t0, .bool true] ∧ Jy M' t0 l0) := by
 refine Qk Tryz.func255 rfl Tryz.ntmps255 rfl Tryz.call255 ?_
 intro a w M1 H hM1 S E
 replace h0 := h0.le hM1
 refine Qb (Qa ?_)
 refine S_x (Jp (cs := #[.slice none 0 0]) E S rfl Tryz.zeroValue74 rfl ?_)
 clear E a S; rintro a w b_1 E S
 refine S_x (Jp (cs := #[.bool false]) E S rfl Tryz.zeroValue4 rfl ?_)
 clear E a S; rintro a w b_2 E S
 refine Qc (T_n (Qb (Qa (S_v E rfl (QT E rfl rfl) rfl ?_))))
 clear E a; intro a E
 refine vi E rfl ?_
 clear E a; intro a E
 replace E : Env a 7 [⟨.fn (.func 318) #[.pointer (some ⟨b_1, 0, none⟩), .pointer (some ⟨b_2, 0, none⟩)], #[]⟩] _ := E
 refine Qc (T_n (Qb (Qa (S_m E rfl rfl ?_))))
 clear E a; intro a E
 refine S_x (Qr E S rfl rfl rfl (h0.2 ) (Hp.le.refl _) ?_)
 clear E a S; rintro a v_4 w M_3 hM_3 hv_4 S E
 replace S := S.front1
 refine Zr (WA E S rfl rfl (Tryz.sizeOf74 _) (RdS.one' hv_4) ?_)
 clear E a S; rintro a w E S
 replace S := S.front1
 refine Zr (WA E S rfl rfl (Tryz.sizeOf4 _) rfl ?_)
 clear E a S; rintro a w E S
 refine Qc (T_n (Qe ?_))
 replace S := S.front1
 exact F_retDC2 E S Tryz.results255 rfl rfl (fun w => Tryz.isAgg74 w) (fun w => Tryz.isAgg4 w) Tryz.call318 (fun w => Gh Tryz.func318 rfl Tryz.results318 Tryz.ntmps318 rfl rfl (by simp) (UE Tryz.underlying20)) ⟨_, rfl, M_3, hM_3, ⟨_, (by rfl), hv_4⟩, S.drop.drop⟩
theorem lo_Chunk {M : Hp} {v0 : Value} {l0 : List Int} (h0 : RdI M v0 l0){n1 : Nat} (hn : 0 < n1) (hb1 : n1 ≤ 1000000) (hb : l0.length ≤ 1000000) :
  Pu Tryz.prog (.func (.func 257) #[] #[]) M [v0, .int .i64 ((n1 : Nat) : Int)] (fun r M' => Jy M' r (chL n1 l0)) := by
 refine Qk Tryz.func257 rfl Tryz.ntmps257 rfl Tryz.call257 ?_
 intro a w M1 H hM1 S E
 replace h0 := h0.le hM1
 have b0 := h0.bound
 refine Qb (Qa (S_a E rfl rfl fun _ E1 => Qc (T_n (Qb (Qb (Qa (S_m E1 rfl rfl fun _ E2 => S_v E2 rfl (ZV E2 rfl rfl) rfl ?_)))))))
 clear E a E1 E2; intro a E
 refine Qc (T_n ?_)
 have hc_1 : (decide (((n1 : Nat) : Int) ≤ 0)) = false := by (apply decide_eq_false; omega)
 refine Ja E rfl hc_1 ?_
 refine Qh (T_n (Qb (Qa (S_m E rfl rfl fun _ E1 => S_v E1 rfl (Qp E1 rfl T22 h0.len) rfl fun _ E2 => S_m E2 rfl rfl fun _ E3 => S_v E3 rfl (R_quon (p := (l0).length) (q := n1) E3 rfl rfl (by omega) (by omega)) rfl fun _ E4 => S_a E4 rfl rfl fun _ E5 => Qc (T_n (Qb (Qb (Qa (S_m E5 rfl rfl ?_)))))))))
 clear E a E1 E2 E3 E4 E5; intro a E
 refine S_v E rfl (Qp E rfl T22 h0.len) rfl fun _ E1 => S_m E1 rfl rfl fun _ E2 => S_v E2 rfl (R_remn (p := (l0).length) (q := n1) E2 rfl rfl (by omega)) rfl fun _ E3 => S_v E3 rfl (Yv E3 rfl rfl) rfl ?_
 clear E a E1 E2 E3; intro a E
 refine Qc (T_n ?_)
 refine Qn E rfl (fun hc_2 => ?_) (fun hc_2 => ?_)
 ·obtain ⟨qd, hxd⟩ : ∃ q, q = l0.length / n1 := ⟨_, rfl⟩
  have h1q := ceil_ok hn (m := l0.length) (by omega)
  rw [← hxd] at h1q
  have h0q := Nat.div_mul_le_self l0.length n1
  rw [← hxd] at h0q
  have h2q : qd ≤ l0.length := by rw [hxd]; exact Nat.div_le_self _ _
  have h3q : (qd + 1) * n1 = qd * n1 + n1 := Nat.succ_mul ..
  replace E := E.ival (t := 5) (c := ((qd : Nat) : Int)) rfl (by omega)
  refine Qa (S_m E rfl rfl fun _ E1 => S_v E1 rfl (Qq (m := ((qd + 1 : Nat) : Int)) E1 rfl rfl (by (omega)) (by (omega))) rfl fun _ E2 => S_a E2 rfl rfl fun _ E3 => Qc (T_n (Qb (Qa (S_m E3 rfl rfl ?_)))))
  clear E a E1 E2 E3; intro a E
  refine S_x (Jf (k := qd + 1) E S rfl rfl rfl T74 rfl (by omega) (by omega) (by omega) ?_)
  clear E a S; rintro a w v_3 E S
  have hr_4 : JH (RSl 1 Jr) 1 M1 ([] : List (List Int)) [] := JH.nil
  replace S : St w M1 (JD 22 1 v_3 ([] : List (List Int)).length [] :: _) := S
  refine S_a E rfl rfl fun _ E1 => Qc (T_n (Qb (Qb (Qa (S_a E1 rfl rfl ?_)))))
  clear E a E1; intro a E
  refine Qc (T_n (Qi ?_))
  have hre : ([] : List (List Int)) = JA n1 n1 l0 0 := by first | rfl | exact JC _ _ _ _
  replace S := S.reR hre
  replace hr_4 := hr_4.eq hre
  clear hre
  refine Qx (γ := Nat) (fun (k : Nat) a w => ∃ (M_5 : Hp) (u6 : Value) (xs6 : List Value), Hp.le M1 M_5 ∧ St w M_5 (JD 22 1 u6 (JA n1 n1 l0 k).length xs6 :: H) ∧ Env a 60 [] [(0, v0), (1, .int .i64 ((n1 : Nat) : Int)), (5, .int .i64 ((qd + 1 : Nat) : Int)), (6, u6), (7, .int .i64 ((k : Nat) : Int))] ∧ (k ≤ qd + 1) ∧ (k = 0 ∨ (k - 1) * n1 < l0.length) ∧ JH (RSl 1 Jr) 1 M_5 (JA n1 n1 l0 k) xs6) (fun k => qd + 2 - k) 0 ⟨M1, _, _, Hp.le.refl _, S, E.keep ⟨rfl, rfl, rfl, rfl, rfl, trivial⟩, (by omega), (by left; rfl), hr_4⟩ ?_
  try clear E
  try clear S
  try clear a
  try clear w
  rintro k a w ⟨M_5, u6, xs6, hM_5, S, E, hL0_0, hL0_1, hr6⟩
  replace h0 := h0.le hM_5
  have hk0 : (k + 1) * n1 = k * n1 + n1 := Nat.succ_mul ..
  have hkd0 : k * n1 ≤ (qd + 1) * n1 := Nat.mul_le_mul_right _ (by omega)
  have hwl := Jn n1 n1 l0 k
  refine Qb (Qb (Qa (S_m E rfl rfl fun _ E1 => S_m E1 rfl rfl fun _ E2 => S_v E2 rfl (QG E2 rfl rfl) rfl ?_)))
  clear E a E1 E2; intro a E
  refine Qc (T_n ?_)
  refine Qn E rfl (fun hc_6 => ?_) (fun hc_6 => ?_)
  ·have hkd : k * n1 ≤ qd * n1 := Nat.mul_le_mul_right _ (by omega)
   have hke : k + 1 ≤ qd → (k + 1) * n1 ≤ qd * n1 := fun h => Nat.mul_le_mul_right _ h
   refine Qh (T_n (Qb (Qi (Qb (Qa (S_m E rfl rfl fun _ E1 => S_v E1 rfl (Qq (m := ((k + 1 : Nat) : Int)) E1 rfl rfl (by (omega)) (by (omega))) rfl fun _ E2 => S_m E2 rfl rfl fun _ E3 => S_v E3 rfl (VJ (m := (((k + 1) * n1 : Nat) : Int)) E3 rfl rfl (by (omega)) (by (omega))) rfl fun _ E4 => S_a E4 rfl rfl fun _ E5 => Qc (T_n (Qb (Qb (Qa (S_m E5 rfl rfl ?_)))))))))))
   clear E a E1 E2 E3 E4 E5; intro a E
   refine S_m E rfl rfl fun _ E1 => S_v E1 rfl (Qp E1 rfl T22 h0.len) rfl fun _ E2 => S_v E2 rfl (JT E2 rfl rfl) rfl ?_
   clear E a E1 E2; intro a E
   refine Qc (T_n ?_)
   refine Qn E rfl (fun hc_7 => ?_) (fun hc_7 => ?_)
   ·refine Qa (S_m E rfl rfl fun _ E1 => S_v E1 rfl (Qp E1 rfl T22 h0.len) rfl fun _ E2 => S_a E2 rfl rfl fun _ E3 => Qc (T_n (Qb (Qa (S_m E3 rfl rfl fun _ E4 => S_m E4 rfl rfl fun _ E5 => S_m E5 rfl rfl ?_)))))
    clear E a E1 E2 E3 E4 E5; intro a E
    refine S_v E rfl (VJ (m := ((k * n1 : Nat) : Int)) E rfl rfl (by (omega)) (by (omega))) rfl fun _ E1 => S_v E1 rfl (Jg (m := (((l0).length - (k * n1) : Nat) : Int)) E1 rfl rfl (by (omega)) (by (omega))) rfl ?_
    clear E a E1; intro a E
    refine S_x (Yk (k := (l0).length - (k * n1)) E S rfl rfl rfl T22 (by omega) (by omega) (by omega) (by omega) ?_)
    clear E a S; rintro a w v_8 E S
    replace S := S.madeI
    refine S_a E rfl rfl fun _ E1 => Qc (T_n (Qb (Qa (S_m E1 rfl rfl fun _ E2 => S_m E2 rfl rfl fun _ E3 => S_m E3 rfl rfl fun _ E4 => S_m E4 rfl rfl fun _ E5 => S_v E5 rfl (VJ (m := ((k * n1 : Nat) : Int)) E5 rfl rfl (by (omega)) (by (omega))) rfl ?_))))
    clear E a E1 E2 E3 E4 E5; intro a E
    refine S_m E rfl rfl ?_
    clear E a; intro a E
    obtain ⟨v_9, sv_9, hv_9⟩ := h0.subv (k * n1) ((l0).length) (by omega) (by omega)
    replace hv_9 : RdI M_5 v_9 (((l0).take ((l0).length)).drop (k * n1)) := hv_9
    refine S_v E rfl (Je E rfl rfl rfl T22 sv_9 (by omega) (by omega)) rfl ?_
    clear E a; intro a E
    refine S_x (YO (xs := (List.replicate ((l0).length - (k * n1)) (0 : Int))) (ys := ((l0).take ((l0).length)).drop (k * n1)) E S rfl rfl rfl T22 hv_9 ?_)
    clear E a S; rintro a w E S
    replace S := S.re1 (l' := (l0.drop (k * n1)).take n1) (by ((rw [ck_cutL (by omega)]; exact Gy (by rw [List.length_take, List.length_drop]; omega))))
    refine Qc (T_n (Qa (S_m E rfl rfl fun _ E1 => S_m E1 rfl rfl ?_)))
    clear E a E1; intro a E
    have S0 := S; clear S
    obtain ⟨M_11, hM_11, hz_12, S⟩ := S0.freezeI (by ((simp; omega)))
    clear S0
    replace h0 := h0.le hM_11
    replace hr6 := hr6.le (QN QI) hM_11
    refine S_x (JP (R := RSl 1 Jr) (vs := [v_8]) (xs := [(l0.drop (k * n1)).take n1]) (QN QI) E S rfl T74 rfl rfl rfl (by intro u hu; simp only [List.mem_cons, List.not_mem_nil, or_false] at hu; rcases hu with rfl <;> first | exact RdI.one hz_12 | rfl) rfl (ZC (R := RSl 1 Jr) (RdI.row hz_12) YQ) ?_)
    clear E a S; rintro a v_10 w M_13 hM_13 hv_10 S E
    replace hv_10 : Jy M_13 v_10 [(l0.drop (k * n1)).take n1] := hv_10
    replace h0 := h0.le hM_13
    replace hr6 := hr6.le (QN QI) hM_13
    refine S_x (ZU (R := (RSl 1 Jr)) (zs := JA n1 n1 l0 k) (ys := [(l0.drop (k * n1)).take n1]) E S hr6 rfl rfl rfl T74 hv_10 Vf (by (simp only [Jn, List.length_cons, List.length_nil]; omega)) (by (simp only [Jn, List.length_cons, List.length_nil]; omega)) ?_)
    clear E a S; rintro a w v_14 xs_15 E hr_16 S
    refine S_a E rfl rfl fun _ E1 => Qc (B_n (T_n (Qa (S_m E1 rfl rfl fun _ E2 => S_v E2 rfl (Qq (m := ((k + 1 : Nat) : Int)) E2 rfl rfl (by (omega)) (by (omega))) rfl fun _ E3 => S_a E3 rfl rfl ?_))))
    clear E a E1 E2 E3; intro a E
    refine Qc (T_n ?_)
    have hre : (JA n1 n1 l0 k) ++ [(l0.drop (k * n1)).take n1] = JA n1 n1 l0 (k + 1) := by first | rfl | exact JC _ _ _ _
    replace S := S.reR hre
    replace hr_16 := hr_16.eq hre
    clear hre
    exact ⟨k + 1, ⟨M_13, _, _, (hM_5.trans (hM_11.trans hM_13)), S, E.keep ⟨rfl, rfl, rfl, rfl, rfl, trivial⟩, (by omega), (by right; simp only [Nat.add_sub_cancel]; first | omega | (have h9 := hke (by omega); omega)), hr_16⟩, by omega⟩
   ·refine Qh (T_n (Qb (Qa (S_m E rfl rfl fun _ E1 => S_m E1 rfl rfl fun _ E2 => S_m E2 rfl rfl fun _ E3 => S_v E3 rfl (VJ (m := ((k * n1 : Nat) : Int)) E3 rfl rfl (by (omega)) (by (omega))) rfl fun _ E4 => S_v E4 rfl (Jg (m := (((k + 1) * n1 - (k * n1) : Nat) : Int)) E4 rfl rfl (by (omega)) (by (omega))) rfl ?_))))
    clear E a E1 E2 E3 E4; intro a E
    refine S_x (Yk (k := (k + 1) * n1 - (k * n1)) E S rfl rfl rfl T22 (by omega) (by omega) (by omega) (by omega) ?_)
    clear E a S; rintro a w v_17 E S
    replace S := S.madeI
    refine S_a E rfl rfl fun _ E1 => Qc (T_n (Qb (Qa (S_m E1 rfl rfl fun _ E2 => S_m E2 rfl rfl fun _ E3 => S_m E3 rfl rfl fun _ E4 => S_m E4 rfl rfl fun _ E5 => S_v E5 rfl (VJ (m := ((k * n1 : Nat) : Int)) E5 rfl rfl (by (omega)) (by (omega))) rfl ?_))))
    clear E a E1 E2 E3 E4 E5; intro a E
    refine S_m E rfl rfl ?_
    clear E a; intro a E
    obtain ⟨v_18, sv_18, hv_18⟩ := h0.subv (k * n1) ((k + 1) * n1) (by omega) (by omega)
    replace hv_18 : RdI M_5 v_18 (((l0).take ((k + 1) * n1)).drop (k * n1)) := hv_18
    refine S_v E rfl (Je E rfl rfl rfl T22 sv_18 (by omega) (by omega)) rfl ?_
    clear E a; intro a E
    refine S_x (YO (xs := (List.replicate ((k + 1) * n1 - (k * n1)) (0 : Int))) (ys := ((l0).take ((k + 1) * n1)).drop (k * n1)) E S rfl rfl rfl T22 hv_18 ?_)
    clear E a S; rintro a w E S
    replace S := S.re1 (l' := (l0.drop (k * n1)).take n1) (by ((rw [ck_cut (by omega)]; exact Gy (by rw [List.length_take, List.length_drop]; omega))))
    refine Qc (T_n (Qa (S_m E rfl rfl fun _ E1 => S_m E1 rfl rfl ?_)))
    clear E a E1; intro a E
    have S0 := S; clear S
    obtain ⟨M_20, hM_20, hz_21, S⟩ := S0.freezeI (by ((simp; omega)))
    clear S0
    replace h0 := h0.le hM_20
    replace hr6 := hr6.le (QN QI) hM_20
    refine S_x (JP (R := RSl 1 Jr) (vs := [v_17]) (xs := [(l0.drop (k * n1)).take n1]) (QN QI) E S rfl T74 rfl rfl rfl (by intro u hu; simp only [List.mem_cons, List.not_mem_nil, or_false] at hu; rcases hu with rfl <;> first | exact RdI.one hz_21 | rfl) rfl (ZC (R := RSl 1 Jr) (RdI.row hz_21) YQ) ?_)
    clear E a S; rintro a v_19 w M_22 hM_22 hv_19 S E
    replace hv_19 : Jy M_22 v_19 [(l0.drop (k * n1)).take n1] := hv_19
    replace h0 := h0.le hM_22
    replace hr6 := hr6.le (QN QI) hM_22
    refine S_x (ZU (R := (RSl 1 Jr)) (zs := JA n1 n1 l0 k) (ys := [(l0.drop (k * n1)).take n1]) E S hr6 rfl rfl rfl T74 hv_19 Vf (by (simp only [Jn, List.length_cons, List.length_nil]; omega)) (by (simp only [Jn, List.length_cons, List.length_nil]; omega)) ?_)
    clear E a S; rintro a w v_23 xs_24 E hr_25 S
    refine S_a E rfl rfl fun _ E1 => Qc (B_n (T_n (Qa (S_m E1 rfl rfl fun _ E2 => S_v E2 rfl (Qq (m := ((k + 1 : Nat) : Int)) E2 rfl rfl (by (omega)) (by (omega))) rfl fun _ E3 => S_a E3 rfl rfl ?_))))
    clear E a E1 E2 E3; intro a E
    refine Qc (T_n ?_)
    have hre : (JA n1 n1 l0 k) ++ [(l0.drop (k * n1)).take n1] = JA n1 n1 l0 (k + 1) := by first | rfl | exact JC _ _ _ _
    replace S := S.reR hre
    replace hr_25 := hr_25.eq hre
    clear hre
    exact ⟨k + 1, ⟨M_22, _, _, (hM_5.trans (hM_20.trans hM_22)), S, E.keep ⟨rfl, rfl, rfl, rfl, rfl, trivial⟩, (by omega), (by right; simp only [Nat.add_sub_cancel]; first | omega | (have h9 := hke (by omega); omega)), hr_25⟩, by omega⟩
  ·refine Qt (T_x (T_x (B_x (T_n (Qb (Qa (S_m E rfl rfl fun _ E1 => S_a E1 rfl rfl ?_)))))))
   clear E a E1; intro a E
   refine Qc (T_n (Qe ?_))
   have S0 := S; clear S
   obtain ⟨M_26, hM_26, hz_27, S⟩ := S0.freezeR hr6 (QN QI) (by (omega))
   clear S0
   replace hz_27 : Jy M_26 u6 (JA n1 n1 l0 k) := hz_27
   replace h0 := h0.le hM_26
   exact Qg E Tryz.results257 rfl ⟨_, rfl, M_26, (hM_5.trans hM_26), (RdS.eqL hz_27 (by (symm; exact qK hn (Nat.le_trans h1q.1 (Nat.mul_le_mul_right _ (by omega))) (by assumption)))), S⟩
 ·obtain ⟨qd, hxd⟩ : ∃ q, q = l0.length / n1 := ⟨_, rfl⟩
  have h1q := ceil_ok0 hn (m := l0.length) (by omega)
  rw [← hxd] at h1q
  have h0q := Nat.div_mul_le_self l0.length n1
  rw [← hxd] at h0q
  have h2q : qd ≤ l0.length := by rw [hxd]; exact Nat.div_le_self _ _
  have h3q : (qd + 1) * n1 = qd * n1 + n1 := Nat.succ_mul ..
  replace E := E.ival (t := 5) (c := ((qd : Nat) : Int)) rfl (by omega)
  refine Qh (T_n (Qb (Qa (S_m E rfl rfl ?_))))
  clear E a; intro a E
  refine S_x (Jf (k := qd) E S rfl rfl rfl T74 rfl (by omega) (by omega) (by omega) ?_)
  clear E a S; rintro a w v_28 E S
  have hr_29 : JH (RSl 1 Jr) 1 M1 ([] : List (List Int)) [] := JH.nil
  replace S : St w M1 (JD 22 1 v_28 ([] : List (List Int)).length [] :: _) := S
  refine S_a E rfl rfl fun _ E1 => Qc (T_n (Qb (Qb (Qa (S_a E1 rfl rfl ?_)))))
  clear E a E1; intro a E
  refine Qc (T_n (Qi ?_))
  have hre : ([] : List (List Int)) = JA n1 n1 l0 0 := by first | rfl | exact JC _ _ _ _
  replace S := S.reR hre
  replace hr_29 := hr_29.eq hre
  clear hre
  refine Qx (γ := Nat) (fun (k : Nat) a w => ∃ (M_30 : Hp) (u6 : Value) (xs6 : List Value), Hp.le M1 M_30 ∧ St w M_30 (JD 22 1 u6 (JA n1 n1 l0 k).length xs6 :: H) ∧ Env a 60 [] [(0, v0), (1, .int .i64 ((n1 : Nat) : Int)), (5, .int .i64 ((qd : Nat) : Int)), (6, u6), (7, .int .i64 ((k : Nat) : Int))] ∧ (k ≤ qd + 1) ∧ (k = 0 ∨ (k - 1) * n1 < l0.length) ∧ JH (RSl 1 Jr) 1 M_30 (JA n1 n1 l0 k) xs6) (fun k => qd + 2 - k) 0 ⟨M1, _, _, Hp.le.refl _, S, E.keep ⟨rfl, rfl, rfl, rfl, rfl, trivial⟩, (by omega), (by left; rfl), hr_29⟩ ?_
  try clear E
  try clear S
  try clear a
  try clear w
  rintro k a w ⟨M_30, u6, xs6, hM_30, S, E, hL0_0, hL0_1, hr6⟩
  replace h0 := h0.le hM_30
  have hk0 : (k + 1) * n1 = k * n1 + n1 := Nat.succ_mul ..
  have hkd0 : k * n1 ≤ (qd + 1) * n1 := Nat.mul_le_mul_right _ (by omega)
  have hwl := Jn n1 n1 l0 k
  refine Qb (Qb (Qa (S_m E rfl rfl fun _ E1 => S_m E1 rfl rfl fun _ E2 => S_v E2 rfl (QG E2 rfl rfl) rfl ?_)))
  clear E a E1 E2; intro a E
  refine Qc (T_n ?_)
  refine Qn E rfl (fun hc_31 => ?_) (fun hc_31 => ?_)
  ·have hkd : k * n1 ≤ qd * n1 := Nat.mul_le_mul_right _ (by omega)
   have hke : k + 1 ≤ qd → (k + 1) * n1 ≤ qd * n1 := fun h => Nat.mul_le_mul_right _ h
   refine Qh (T_n (Qb (Qi (Qb (Qa (S_m E rfl rfl fun _ E1 => S_v E1 rfl (Qq (m := ((k + 1 : Nat) : Int)) E1 rfl rfl (by (omega)) (by (omega))) rfl fun _ E2 => S_m E2 rfl rfl fun _ E3 => S_v E3 rfl (VJ (m := (((k + 1) * n1 : Nat) : Int)) E3 rfl rfl (by (omega)) (by (omega))) rfl fun _ E4 => S_a E4 rfl rfl fun _ E5 => Qc (T_n (Qb (Qb (Qa (S_m E5 rfl rfl ?_)))))))))))
   clear E a E1 E2 E3 E4 E5; intro a E
   refine S_m E rfl rfl fun _ E1 => S_v E1 rfl (Qp E1 rfl T22 h0.len) rfl fun _ E2 => S_v E2 rfl (JT E2 rfl rfl) rfl ?_
   clear E a E1 E2; intro a E
   refine Qc (T_n ?_)
   refine Qn E rfl (fun hc_32 => ?_) (fun hc_32 => ?_)
   ·refine Qa (S_m E rfl rfl fun _ E1 => S_v E1 rfl (Qp E1 rfl T22 h0.len) rfl fun _ E2 => S_a E2 rfl rfl fun _ E3 => Qc (T_n (Qb (Qa (S_m E3 rfl rfl fun _ E4 => S_m E4 rfl rfl fun _ E5 => S_m E5 rfl rfl ?_)))))
    clear E a E1 E2 E3 E4 E5; intro a E
    refine S_v E rfl (VJ (m := ((k * n1 : Nat) : Int)) E rfl rfl (by (omega)) (by (omega))) rfl fun _ E1 => S_v E1 rfl (Jg (m := (((l0).length - (k * n1) : Nat) : Int)) E1 rfl rfl (by (omega)) (by (omega))) rfl ?_
    clear E a E1; intro a E
    refine S_x (Yk (k := (l0).length - (k * n1)) E S rfl rfl rfl T22 (by omega) (by omega) (by omega) (by omega) ?_)
    clear E a S; rintro a w v_33 E S
    replace S := S.madeI
    refine S_a E rfl rfl fun _ E1 => Qc (T_n (Qb (Qa (S_m E1 rfl rfl fun _ E2 => S_m E2 rfl rfl fun _ E3 => S_m E3 rfl rfl fun _ E4 => S_m E4 rfl rfl fun _ E5 => S_v E5 rfl (VJ (m := ((k * n1 : Nat) : Int)) E5 rfl rfl (by (omega)) (by (omega))) rfl ?_))))
    clear E a E1 E2 E3 E4 E5; intro a E
    refine S_m E rfl rfl ?_
    clear E a; intro a E
    obtain ⟨v_34, sv_34, hv_34⟩ := h0.subv (k * n1) ((l0).length) (by omega) (by omega)
    replace hv_34 : RdI M_30 v_34 (((l0).take ((l0).length)).drop (k * n1)) := hv_34
    refine S_v E rfl (Je E rfl rfl rfl T22 sv_34 (by omega) (by omega)) rfl ?_
    clear E a; intro a E
    refine S_x (YO (xs := (List.replicate ((l0).length - (k * n1)) (0 : Int))) (ys := ((l0).take ((l0).length)).drop (k * n1)) E S rfl rfl rfl T22 hv_34 ?_)
    clear E a S; rintro a w E S
    replace S := S.re1 (l' := (l0.drop (k * n1)).take n1) (by ((rw [ck_cutL (by omega)]; exact Gy (by rw [List.length_take, List.length_drop]; omega))))
    refine Qc (T_n (Qa (S_m E rfl rfl fun _ E1 => S_m E1 rfl rfl ?_)))
    clear E a E1; intro a E
    have S0 := S; clear S
    obtain ⟨M_36, hM_36, hz_37, S⟩ := S0.freezeI (by (omega))
    clear S0
    replace h0 := h0.le hM_36
    replace hr6 := hr6.le (QN QI) hM_36
    refine S_x (JP (R := RSl 1 Jr) (vs := [v_33]) (xs := [(l0.drop (k * n1)).take n1]) (QN QI) E S rfl T74 rfl rfl rfl (by intro u hu; simp only [List.mem_cons, List.not_mem_nil, or_false] at hu; rcases hu with rfl <;> first | exact RdI.one hz_37 | rfl) rfl (ZC (R := RSl 1 Jr) (RdI.row hz_37) YQ) ?_)
    clear E a S; rintro a v_35 w M_38 hM_38 hv_35 S E
    replace hv_35 : Jy M_38 v_35 [(l0.drop (k * n1)).take n1] := hv_35
    replace h0 := h0.le hM_38
    replace hr6 := hr6.le (QN QI) hM_38
    refine S_x (ZU (R := (RSl 1 Jr)) (zs := JA n1 n1 l0 k) (ys := [(l0.drop (k * n1)).take n1]) E S hr6 rfl rfl rfl T74 hv_35 Vf (by (simp only [Jn, List.length_cons, List.length_nil]; omega)) (by (simp only [Jn, List.length_cons, List.length_nil]; omega)) ?_)
    clear E a S; rintro a w v_39 xs_40 E hr_41 S
    refine S_a E rfl rfl fun _ E1 => Qc (B_n (T_n (Qa (S_m E1 rfl rfl fun _ E2 => S_v E2 rfl (Qq (m := ((k + 1 : Nat) : Int)) E2 rfl rfl (by (omega)) (by (omega))) rfl fun _ E3 => S_a E3 rfl rfl ?_))))
    clear E a E1 E2 E3; intro a E
    refine Qc (T_n ?_)
    have hre : (JA n1 n1 l0 k) ++ [(l0.drop (k * n1)).take n1] = JA n1 n1 l0 (k + 1) := by first | rfl | exact JC _ _ _ _
    replace S := S.reR hre
    replace hr_41 := hr_41.eq hre
    clear hre
    exact ⟨k + 1, ⟨M_38, _, _, (hM_30.trans (hM_36.trans hM_38)), S, E.keep ⟨rfl, rfl, rfl, rfl, rfl, trivial⟩, (by omega), (by right; simp only [Nat.add_sub_cancel]; first | omega | (have h9 := hke (by omega); omega)), hr_41⟩, by omega⟩
   ·refine Qh (T_n (Qb (Qa (S_m E rfl rfl fun _ E1 => S_m E1 rfl rfl fun _ E2 => S_m E2 rfl rfl fun _ E3 => S_v E3 rfl (VJ (m := ((k * n1 : Nat) : Int)) E3 rfl rfl (by (omega)) (by (omega))) rfl fun _ E4 => S_v E4 rfl (Jg (m := (((k + 1) * n1 - (k * n1) : Nat) : Int)) E4 rfl rfl (by (omega)) (by (omega))) rfl ?_))))
    clear E a E1 E2 E3 E4; intro a E
    refine S_x (Yk (k := (k + 1) * n1 - (k * n1)) E S rfl rfl rfl T22 (by omega) (by omega) (by omega) (by omega) ?_)
    clear E a S; rintro a w v_42 E S
    replace S := S.madeI
    refine S_a E rfl rfl fun _ E1 => Qc (T_n (Qb (Qa (S_m E1 rfl rfl fun _ E2 => S_m E2 rfl rfl fun _ E3 => S_m E3 rfl rfl fun _ E4 => S_m E4 rfl rfl fun _ E5 => S_v E5 rfl (VJ (m := ((k * n1 : Nat) : Int)) E5 rfl rfl (by (omega)) (by (omega))) rfl ?_))))
    clear E a E1 E2 E3 E4 E5; intro a E
    refine S_m E rfl rfl ?_
    clear E a; intro a E
    obtain ⟨v_43, sv_43, hv_43⟩ := h0.subv (k * n1) ((k + 1) * n1) (by omega) (by omega)
    replace hv_43 : RdI M_30 v_43 (((l0).take ((k + 1) * n1)).drop (k * n1)) := hv_43
    refine S_v E rfl (Je E rfl rfl rfl T22 sv_43 (by omega) (by omega)) rfl ?_
    clear E a; intro a E
    refine S_x (YO (xs := (List.replicate ((k + 1) * n1 - (k * n1)) (0 : Int))) (ys := ((l0).take ((k + 1) * n1)).drop (k * n1)) E S rfl rfl rfl T22 hv_43 ?_)
    clear E a S; rintro a w E S
    replace S := S.re1 (l' := (l0.drop (k * n1)).take n1) (by ((rw [ck_cut (by omega)]; exact Gy (by rw [List.length_take, List.length_drop]; omega))))
    refine Qc (T_n (Qa (S_m E rfl rfl fun _ E1 => S_m E1 rfl rfl ?_)))
    clear E a E1; intro a E
    have S0 := S; clear S
    obtain ⟨M_45, hM_45, hz_46, S⟩ := S0.freezeI (by ((simp; omega)))
    clear S0
    replace hr6 := hr6.le (QN QI) hM_45
    refine S_x (JP (R := RSl 1 Jr) (vs := [v_42]) (xs := [(l0.drop (k * n1)).take n1]) (QN QI) E S rfl T74 rfl rfl rfl (by intro u hu; simp only [List.mem_cons, List.not_mem_nil, or_false] at hu; rcases hu with rfl <;> first | exact RdI.one hz_46 | rfl) rfl (ZC (R := RSl 1 Jr) (RdI.row hz_46) YQ) ?_)
    clear E a S; rintro a v_44 w M_47 hM_47 hv_44 S E
    replace hv_44 : Jy M_47 v_44 [(l0.drop (k * n1)).take n1] := hv_44
    replace hr6 := hr6.le (QN QI) hM_47
    refine S_x (ZU (R := (RSl 1 Jr)) (zs := JA n1 n1 l0 k) (ys := [(l0.drop (k * n1)).take n1]) E S hr6 rfl rfl rfl T74 hv_44 Vf (by (simp only [Jn, List.length_cons, List.length_nil]; omega)) (by (simp only [Jn, List.length_cons, List.length_nil]; omega)) ?_)
    clear E a S; rintro a w v_48 xs_49 E hr_50 S
    refine S_a E rfl rfl fun _ E1 => Qc (B_n (T_n (Qa (S_m E1 rfl rfl fun _ E2 => S_v E2 rfl (Qq (m := ((k + 1 : Nat) : Int)) E2 rfl rfl (by (omega)) (by (omega))) rfl fun _ E3 => S_a E3 rfl rfl ?_))))
    clear E a E1 E2 E3; intro a E
    refine Qc (T_n ?_)
    have hre : (JA n1 n1 l0 k) ++ [(l0.drop (k * n1)).take n1] = JA n1 n1 l0 (k + 1) := by first | rfl | exact JC _ _ _ _
    replace S := S.reR hre
    replace hr_50 := hr_50.eq hre
    clear hre
    exact ⟨k + 1, ⟨M_47, _, _, (hM_30.trans (hM_45.trans hM_47)), S, E.keep ⟨rfl, rfl, rfl, rfl, rfl, trivial⟩, (by omega), (by right; simp only [Nat.add_sub_cancel]; first | omega | (have h9 := hke (by omega); omega)), hr_50⟩, by omega⟩
  ·refine Qt (T_x (T_x (B_x (T_n (Qb (Qa (S_m E rfl rfl fun _ E1 => S_a E1 rfl rfl ?_)))))))
   clear E a E1; intro a E
   refine Qc (T_n (Qe ?_))
   have S0 := S; clear S
   obtain ⟨M_51, hM_51, hz_52, S⟩ := S0.freezeR hr6 (QN QI) (by (omega))
   clear S0
   replace hz_52 : Jy M_51 u6 (JA n1 n1 l0 k) := hz_52
   exact Qg E Tryz.results257 rfl ⟨_, rfl, M_51, (hM_30.trans hM_51), (RdS.eqL hz_52 (by (symm; exact qK hn (Nat.le_trans h1q.1 (Nat.mul_le_mul_right _ (by omega))) (by assumption)))), S⟩
theorem impl_Chunk1 {M : Hp} {v0 : Value} {l0 : List Int} {n1 : Nat} (hn : 0 < n1) (hb1 : n1 ≤ 1000000) (hb : l0.length ≤ 1000000) {bx0 bx1 : Nat} (hbx0 : M bx0 = some (.cells #[v0] 22)) (h0 : RdI M v0 l0) (hbx1 : M bx1 = some (.cells #[.int .i64 (n1 : Int)] 3)) :
  Pu Tryz.prog (.func (.func 256) #[] #[.pointer (some ⟨bx0, 0, none⟩), .pointer (some ⟨bx1, 0, none⟩)]) M [] (fun r M' => Jy M' r (chL n1 l0)) := by
 refine Qk Tryz.func256 rfl Tryz.ntmps256 rfl Tryz.call256 ?_
 intro a w M1 H hM1 S E
 replace hbx0 := hM1.2 _ _ hbx0
 replace hbx1 := hM1.2 _ _ hbx1
 replace h0 := h0.le hM1
 have b0 := h0.bound
 refine Qb (Qa (S_a E rfl rfl fun _ E1 => Qc (T_n (Qb (Qa (S_v E1 rfl (Qj E1 rfl Tryz.isAgg22 S.imm (Jw hbx0)) rfl fun _ E2 => S_v E2 rfl (Qj E2 rfl Tryz.isAgg3 S.imm (Jw hbx1)) rfl ?_))))))
 clear E a E1 E2; intro a E
 refine S_x (Qr E S rfl rfl rfl (lo_Chunk h0 (by omega) (by omega) (by omega)) (Hp.le.refl _) ?_)
 clear E a S; rintro a v_2 w M_1 hM_1 hv_2 S E
 refine S_a E rfl rfl ?_
 clear E a; intro a E
 refine Qc (T_n (Qe ?_))
 exact Qg E Tryz.results256 rfl ⟨_, rfl, M_1, hM_1, hv_2, S⟩
theorem jD (b b' : Nat) (T : TypeId) (u : Value) (w : World) {v v' : Value} {e e' : TypeId} (h : w.heap[b]? = some (.cells #[v] e)) (h' : (w.setCell ⟨b, 0, none⟩ (.slice none 0 0)).heap[b']? = some (.cells #[v'] e')) :
  CallsDIn (Fw none) 0 Tryz.prog 318 #[.pointer (some ⟨b, 0, none⟩), .pointer (some ⟨b', 0, none⟩)] (.panicking [{ v := .iface T u, recovered := false }]) w
   (fun e u' w' => e = .returned (.tuple #[]) ∧ u' = .panicking [{ v := .iface T u, recovered := true }] ∧ w' = (w.setCell ⟨b, 0, none⟩ (.slice none 0 0)).setCell ⟨b', 0, none⟩ (.bool false)) := by
 have hc : w.cell? ⟨b, 0, none⟩ = some v := by simp [World.cell?, h]
 have hf : w.frozen? ⟨b, 0, none⟩ = false := by simp [World.frozen?, h]
 have hc' : (w.setCell ⟨b, 0, none⟩ (.slice none 0 0)).cell? ⟨b', 0, none⟩ = some v' := by simp [World.cell?, h']
 have hf' : (w.setCell ⟨b, 0, none⟩ (.slice none 0 0)).frozen? ⟨b', 0, none⟩ = false := by simp [World.frozen?, h']
 refine callsDIn_of_wpSIn Tryz.func318 rfl trivial fun c₀ cs hu => ?_
 apply wpSIn_seq
 apply wpSIn_region
 simp [wpOpsSIn, go_sem, recoverD, hu, Tryz.ntmps318, Exit.thenS]
 refine wpSIn_cond (t := true) (by simp [Act.eval, Array.replicate]) ?_
 simp only [if_true]
 apply wpSIn_region
 simp [wpOpsSIn, go_sem, hc, hf, hc', hf', bodyPostS, results, Tryz.results318, Tryz.sizeOf74]
theorem yP {M : Hp} {v0 : Value} (h0 : PF0P Tryz.prog v0 M) :
  Pu Tryz.prog (.func (.func 255) #[] #[]) M [v0] (fun r M' => ∃ t0, r = .tuple #[t0, .bool false] ∧ Jy M' t0 ([] : List (List Int))) := by
 refine Qk Tryz.func255 rfl Tryz.ntmps255 rfl Tryz.call255 ?_
 intro a w M1 H hM1 S E
 replace h0 := h0.le hM1
 refine Qb (Qa ?_)
 refine S_x (Jp (cs := #[.slice none 0 0]) E S rfl Tryz.zeroValue74 rfl ?_)
 clear E a S; rintro a w b_1 E S
 refine S_x (Jp (cs := #[.bool false]) E S rfl Tryz.zeroValue4 rfl ?_)
 clear E a S; rintro a w b_2 E S
 refine Qc (T_n (Qb (Qa (S_v E rfl (QT E rfl rfl) rfl ?_))))
 clear E a; intro a E
 refine vi E rfl ?_
 clear E a; intro a E
 replace E : Env a 7 [⟨.fn (.func 318) #[.pointer (some ⟨b_1, 0, none⟩), .pointer (some ⟨b_2, 0, none⟩)], #[]⟩] _ := E
 refine Qc (T_n (Qb (Qa (S_m E rfl rfl ?_))))
 clear E a; intro a E
 replace S := S.front1
 exact S_x (X_puP E S rfl rfl (h0.2) (Hp.le.refl _) (fun _ _ w M_ h S => F_panicDC2 E S Tryz.results255 rfl rfl (fun w => Tryz.isAgg74 w) (fun w => Tryz.isAgg4 w) Tryz.call318 (fun w h1 h2 => jD _ _ _ _ w h1 h2) (fun w S => ⟨_, rfl, M_, (((Hp.le.refl _)).trans h), ⟨_, rfl, RdS.nil _⟩, S.drop.drop⟩)))
theorem lo_ChunkP {M : Hp} {v0 : Value} {n1 : Nat} (hz : n1 = 0) :
  PuP Tryz.prog (.func (.func 257) #[] #[]) M [v0, .int .i64 ((n1 : Nat) : Int)] := by
 refine yh Tryz.func257 rfl Tryz.ntmps257 rfl Tryz.call257 ?_
 intro a w M1 H hM1 S E
 refine Qb (Qa (S_a E rfl rfl fun _ E1 => Qc (T_n (Qb (Qb (Qa (S_m E1 rfl rfl fun _ E2 => S_v E2 rfl (ZV E2 rfl rfl) rfl ?_)))))))
 clear E a E1 E2; intro a E
 refine Qc (T_n ?_)
 have hc_1 : (decide (((n1 : Nat) : Int) ≤ 0)) = true := by (apply decide_eq_true; omega)
 refine ZK E rfl hc_1 ?_
 refine Qa (S_v E rfl (R_ifaceS E rfl Tryz.underlying9) rfl ?_)
 clear E a; intro a E
 exact Zr (X_panic E rfl (F_panic E ⟨_, _, rfl, M1, (Hp.le.refl _), S⟩))
theorem yY {M : Hp} {v0 : Value} {l0 : List Int} {n1 : Nat} (hz : n1 = 0) {bx0 bx1 : Nat} (hbx0 : M bx0 = some (.cells #[v0] 22)) (h0 : RdI M v0 l0) (hbx1 : M bx1 = some (.cells #[.int .i64 (n1 : Int)] 3)) :
  PuP Tryz.prog (.func (.func 256) #[] #[.pointer (some ⟨bx0, 0, none⟩), .pointer (some ⟨bx1, 0, none⟩)]) M [] := by
 refine yh Tryz.func256 rfl Tryz.ntmps256 rfl Tryz.call256 ?_
 intro a w M1 H hM1 S E
 replace hbx0 := hM1.2 _ _ hbx0
 replace hbx1 := hM1.2 _ _ hbx1
 refine Qb (Qa (S_a E rfl rfl fun _ E1 => Qc (T_n (Qb (Qa (S_v E1 rfl (Qj E1 rfl Tryz.isAgg22 S.imm (Jw hbx0)) rfl fun _ E2 => S_v E2 rfl (Qj E2 rfl Tryz.isAgg3 S.imm (Jw hbx1)) rfl ?_))))))
 clear E a E1 E2; intro a E
 exact S_x (X_puP E S rfl rfl (lo_ChunkP (by assumption)) (Hp.le.refl _) (fun _ _ w M_ h S => F_panic E ⟨_, _, rfl, M_, (((Hp.le.refl _)).trans h), S⟩))
theorem zP {M : Hp} {v0 : Value} {l0 : List Int} (h0 : RdI M v0 l0){n1 : Nat} (hn : 0 < n1) (hb1 : n1 ≤ 1000000) (hb : l0.length ≤ 1000000) :
  Pu Tryz.prog (.func (.func 178) #[] #[]) M [v0, .int .i64 ((n1 : Nat) : Int)] (fun r M' => ∃ t0, r = .tuple #[t0, .bool true] ∧ Jy M' t0 (chL n1 l0)) := by
 refine Qk Tryz.func178 rfl Tryz.ntmps178 rfl Tryz.call178 ?_
 intro a w M1 H hM1 S E
 replace h0 := h0.le hM1
 have b0 := h0.bound
 refine Qb (Qa ?_)
 refine S_x (Jc (cs := #[v0]) E S rfl rfl (cells_one (RdS.one' h0)) ?_)
 clear E a S; rintro a w b_1 E S
 obtain ⟨M_2, hM_2, hb_1, S⟩ := S.freezeB
 replace h0 := h0.le hM_2
 refine S_x (Jc (cs := #[.int .i64 ((n1 : Nat) : Int)]) E S rfl rfl rfl ?_)
 clear E a S; rintro a w b_3 E S
 obtain ⟨M_4, hM_4, hb_3, S⟩ := S.freezeB
 replace h0 := h0.le hM_4
 replace hb_1 := hM_4.2 _ _ hb_1
 refine S_a E rfl rfl fun _ E1 => S_a E1 rfl rfl fun _ E2 => Qc (T_n (Qb (Qa (S_v E2 rfl (QT E2 rfl rfl) rfl ?_))))
 clear E a E1 E2; intro a E
 refine S_x (Qr E S rfl rfl rfl (Wa ⟨rfl, impl_Chunk1  (by omega) (by omega) (by omega) hb_1 h0 hb_3⟩) (Hp.le.refl _) ?_)
 clear E a S; rintro a _ w M_5 hM_5 ⟨v_6, rfl, hv_6⟩ S E
 replace h0 := h0.le hM_5
 replace hb_1 := hM_5.2 _ _ hb_1
 replace hb_3 := hM_5.2 _ _ hb_3
 refine S_v E rfl (Qm E rfl rfl) rfl fun _ E1 => S_v E1 rfl (Qm E1 rfl rfl) rfl fun _ E2 => S_a E2 rfl rfl fun _ E3 => S_a E3 rfl rfl ?_
 clear E a E1 E2 E3; intro a E
 refine Qc (T_n (Qe ?_))
 exact Jt E Tryz.results178 rfl rfl ⟨_, rfl, M_5, (hM_2.trans (hM_4.trans hM_5)), ⟨_, (by rfl), (RdS.eqL hv_6 (by (rfl)))⟩, S⟩
theorem qH {M : Hp} {v0 : Value} {l0 : List Int} (h0 : RdI M v0 l0){n1 : Nat} (hz : n1 = 0) :
  Pu Tryz.prog (.func (.func 178) #[] #[]) M [v0, .int .i64 ((n1 : Nat) : Int)] (fun r M' => ∃ t0, r = .tuple #[t0, .bool false] ∧ Jy M' t0 ([] : List (List Int))) := by
 refine Qk Tryz.func178 rfl Tryz.ntmps178 rfl Tryz.call178 ?_
 intro a w M1 H hM1 S E
 replace h0 := h0.le hM1
 have b0 := h0.bound
 refine Qb (Qa ?_)
 refine S_x (Jc (cs := #[v0]) E S rfl rfl (cells_one (RdS.one' h0)) ?_)
 clear E a S; rintro a w b_1 E S
 obtain ⟨M_2, hM_2, hb_1, S⟩ := S.freezeB
 replace h0 := h0.le hM_2
 refine S_x (Jc (cs := #[.int .i64 ((n1 : Nat) : Int)]) E S rfl rfl rfl ?_)
 clear E a S; rintro a w b_3 E S
 obtain ⟨M_4, hM_4, hb_3, S⟩ := S.freezeB
 replace h0 := h0.le hM_4
 replace hb_1 := hM_4.2 _ _ hb_1
 refine S_a E rfl rfl fun _ E1 => S_a E1 rfl rfl fun _ E2 => Qc (T_n (Qb (Qa (S_v E2 rfl (QT E2 rfl rfl) rfl ?_))))
 clear E a E1 E2; intro a E
 refine S_x (Qr E S rfl rfl rfl (yP ⟨rfl, yY  (by assumption) hb_1 h0 hb_3⟩) (Hp.le.refl _) ?_)
 clear E a S; rintro a _ w M_5 hM_5 ⟨v_6, rfl, hv_6⟩ S E
 replace h0 := h0.le hM_5
 refine S_v E rfl (Qm E rfl rfl) rfl fun _ E1 => S_v E1 rfl (Qm E1 rfl rfl) rfl fun _ E2 => S_a E2 rfl rfl fun _ E3 => S_a E3 rfl rfl ?_
 clear E a E1 E2 E3; intro a E
 refine Qc (T_n (Qe ?_))
 exact Jt E Tryz.results178 rfl rfl ⟨_, rfl, M_5, (hM_2.trans (hM_4.trans hM_5)), ⟨_, (by rfl), hv_6⟩, S⟩
theorem impl_Chunk {M : Hp} {v0 : Value} {l0 : List Int} (h0 : RdI M v0 l0){n1 : Nat} (hb1 : n1 ≤ 1000000) (hb : l0.length ≤ 1000000) :
  Pu Tryz.prog (.func (.func 178) #[] #[]) M [v0, .int .i64 ((n1 : Nat) : Int)] (fun r M' => ∃ t0, r = .tuple #[t0, .bool (decide (0 < n1))] ∧ Jy M' t0 (WU n1 l0)) := by
 rcases Nat.eq_zero_or_pos n1 with h | h
 ·have h9 := qH (M := M) h0 h
  subst h; exact h9
 ·have h9 := zP (M := M) h0 h hb1 hb
  rw [Ux h, decide_eq_true h]; exact h9
theorem zC {M : Hp} {v0 : Value} {l0 : List Int} (h0 : RdI M v0 l0){v1 : Value} {f1 : Int → Int} (h1 : PF1I Tryz.prog v1 M f1) (hb : l0.length ≤ 1000000000000) :
  Pu Tryz.prog (.func (.func 258) #[] #[]) M [v0, v1] (fun r M' => Jy M' r (Js f1 l0)) := by
 refine Qk Tryz.func258 rfl Tryz.ntmps258 rfl Tryz.call258 ?_
 intro a w M1 H hM1 S E
 replace h0 := h0.le hM1
 replace h1 := h1.le hM1
 have b0 := h0.bound
 refine Qb (Qa (S_a E rfl rfl ?_))
 clear E a; intro a E
 refine Qc (T_n (Qb (Qa ?_)))
 refine S_x (Wf (vs := []) E S rfl T74 rfl rfl rfl (fun u hu => by simp at hu) ?_)
 clear E a S; rintro a w v_1 E S
 replace S : St w M1 (VF 22 3 v_1 ([] : List (List Int)) :: _) := newLL S
 refine S_a E rfl rfl ?_
 clear E a; intro a E
 refine Qc (T_n (Qb (Qa ?_)))
 refine S_x (X_makeMap E S rfl ?_)
 clear E a S; rintro a w b_2 E S
 replace S : St w M1 (Zw (Value.int .i64) b_2 ([] : List (Int × Int)) :: _) := S
 refine S_a E rfl rfl fun _ E1 => Qc (T_n (Qb (Qb (Qa (S_m E1 rfl rfl fun _ E2 => S_v E2 rfl (Qp E2 rfl T22 h0.len) rfl fun _ E3 => S_m E3 rfl rfl ?_)))))
 clear E a E1 E2 E3; intro a E
 refine Qc (T_n (Qi ?_))
 replace S := S.front1
 replace S := S.front1
 replace S := S.reM (L' := (QY (Value.int .i64) (JS f1 (l0.take 0)))) (congrArg (QY (Value.int .i64)) (show ([] : List (Int × Int)) = JS f1 (l0.take 0) by first | rfl | (simp [Js, JS, uqS]; done) | exact VW (by assumption) (by assumption) (by assumption) | exact VT (by assumption) (by assumption) | exact VX (by assumption) (by assumption) | exact VU (by assumption) (by assumption)))
 replace S := S.front1
 replace S := reLL S (show ([] : List (List Int)) = Js f1 (l0.take 0) by first | rfl | (simp [Js, JS, uqS]; done) | exact VW (by assumption) (by assumption) (by assumption) | exact VT (by assumption) (by assumption) | exact VX (by assumption) (by assumption) | exact VU (by assumption) (by assumption))
 refine Qx (γ := Nat) (fun (k : Nat) a w => ∃ (M_3 : Hp) (u5 : Value), Hp.le M1 M_3 ∧ St w M_3 (VF 22 3 u5 (Js f1 (l0.take k)) :: Zw (Value.int .i64) b_2 (JS f1 (l0.take k)) :: H) ∧ Env a 58 [] [(0, v0), (1, v1), (5, u5), (6, .map (some b_2)), (14, .int .i64 (((l0).length : Nat) : Int)), (15, .int .i64 ((k : Nat) : Int))] ∧ (k ≤ (l0).length)) (fun k => ((l0).length) - k) 0 ⟨M1, _, Hp.le.refl _, S, E.keep ⟨rfl, rfl, rfl, rfl, rfl, rfl, trivial⟩, by (omega)⟩ ?_
 try clear E
 try clear S
 try clear a
 try clear w
 rintro k a w ⟨M_3, u5, hM_3, S, E, hL0_0⟩
 replace h0 := h0.le hM_3
 replace h1 := h1.le hM_3
 refine Qb (Qa (S_v E rfl (QG E rfl rfl) rfl ?_))
 clear E a; intro a E
 refine Qc (T_n (Qb ?_))
 refine Qn E rfl (fun hc_4 => ?_) (fun hc_4 => ?_)
 ·refine Qh (T_n (Qb (Qi (Qb (Qa (S_m E rfl rfl fun _ E1 => S_a E1 rfl rfl fun _ E2 => Qc (T_n (Qb (Qa (S_m E2 rfl rfl fun _ E3 => S_m E3 rfl rfl fun _ E4 => S_m E4 rfl rfl ?_))))))))))
  clear E a E1 E2 E3 E4; intro a E
  obtain ⟨x_5, hx_5⟩ : ∃ x, (l0)[k]? = some x := ⟨_, List.getElem?_eq_getElem (by omega)⟩
  obtain ⟨p_6, hp_6, qp_6⟩ := h0.at hx_5
  refine S_v E rfl (QB E rfl rfl T22 hp_6 rfl) rfl fun _ E1 => S_v E1 rfl (Qj E1 rfl Tryz.isAgg3 S.imm qp_6) rfl ?_
  clear E a E1; intro a E
  refine S_x (Qr E S rfl rfl rfl (h1.2 x_5) (Hp.le.refl _) ?_)
  clear E a S; rintro a _ w M_7 hM_7 rfl S E
  replace h0 := h0.le hM_7
  refine S_a E rfl rfl fun _ E1 => Qc (T_n (Qb (Qa (S_m E1 rfl rfl fun _ E2 => S_m E2 rfl rfl ?_))))
  clear E a E1 E2; intro a E
  replace S := S.front1
  refine S_x (Yo (vf := (Value.int .i64)) (zb := (0 : Int)) E S rfl MT150 rfl rfl ?_)
  clear E a S; rintro a w E S
  replace S : St w M_7 (Zw (Value.int .i64) b_2 (JS f1 (l0.take k)) :: _) := S
  refine S_m E rfl rfl fun _ E1 => S_v E1 rfl (Qm E1 rfl rfl) rfl fun _ E2 => S_v E2 rfl (Qm E2 rfl rfl) rfl fun _ E3 => S_a E3 rfl rfl fun _ E4 => S_a E4 rfl rfl fun _ E5 => Qc (T_n (Qb (Qa (S_m E5 rfl rfl ?_))))
  clear E a E1 E2 E3 E4 E5; intro a E
  refine Qc (T_n ?_)
  refine QL E rfl (fun hc_8 => ?_) (fun hc_8 => ?_)
  ·obtain ⟨jx, hj1, hj2, hj3⟩ := seen_at hc_8
   replace E := E.ival (t := 9) (c := ((jx : Nat) : Int)) rfl (by omega)
   replace S := S.front1
   have S0 := S; clear S
   obtain ⟨xs_9, rest_10, hv_11, l_12, hx_13, hl_14, back_15, S⟩ := lookLL jx (by omega) S0
   clear S0
   have qp_6k15 := qp_6
   have h0k15 := h0
   replace S := S.mono_heap (w' := World.drew _) rfl
   obtain ⟨p_16, hp_16⟩ := S.ptrC (k := jx) (by omega)
   obtain ⟨p_17, hp_17, qp_17⟩ := h0.at hx_5
   refine Jx (C := fun x w => agree M_7 w ∧ (x = 5 → w.cell? p_16 = some hv_11)) (bf := (fun i => bif Nat.beq i 10 then [] else bif Nat.beq i 11 then [5] else bif Nat.beq i 13 then [5] else [])) [0, 1, 2, 3, 4, 5, 6, 7, 8, 9, 12] [0, 1, 2, 3, 4, 5, 6, 7, 8, 9, 10, 11, 12, 13] Tryz.mixed (by kernel_rfl) (fun x hq => ⟨S.imm, fun _ => S.cellC hp_16 hx_13⟩) ?_
   refine D_v E rfl rfl rfl (fun w hC => (Qu E rfl)) fun _ E1 => D_v E1 rfl rfl rfl (fun w hC => (Qu E1 rfl)) fun _ E2 => D_v E2 rfl rfl rfl (fun w hC => (Qu E2 rfl)) fun _ E3 => D_v E3 rfl rfl rfl (fun w hC => (Qu E3 rfl)) fun _ E4 => D_v E4 rfl rfl rfl (fun w hC => (QB E4 rfl rfl T74 hp_16 rfl)) fun _ E5 => D_v E5 rfl rfl rfl (fun w hC => (VK E5 rfl (Tryz.isAgg22 _) (hC.2 rfl))) ?_
   clear E a E1 E2 E3 E4 E5; intro a E
   refine D_v E rfl rfl rfl (fun w hC => (Qu E rfl)) fun _ E1 => D_v E1 rfl rfl rfl (fun w hC => (Qu E1 rfl)) ?_
   clear E a E1; intro a E
   obtain ⟨p_18, hp_18, qp_18⟩ := h0.at hx_5
   refine D_v E rfl rfl rfl (fun w hC => (QB E rfl rfl T22 hp_18 rfl)) fun _ E1 => D_v E1 rfl rfl rfl (fun w hC => (Qj E1 rfl Tryz.isAgg3 hC.1 qp_18)) ?_
   clear E a E1; intro a E
   refine D_x rfl rfl rfl (Qy (ys := [x_5]) E S rfl T22 rfl rfl rfl ?_)
   clear E a S; rintro a w v_19 E S
   refine ⟨fun x hq hb => ⟨(Qz (Hp.le.refl _) S.imm), (fun _ => S.front1.cellC hp_16 hx_13)⟩, ?_⟩
   replace S := S.front2
   replace S := S.front1
   refine D_x rfl rfl rfl (QH (xs := l_12) (ys := [x_5]) E S rfl rfl rfl T22 (by ((have h9 := yz (List.mem_of_getElem? (by assumption)); simp only [List.length_take, List.length_cons, List.length_nil] at *; omega))) ?_)
   clear E a S; rintro a w v_20 E S
   refine ⟨fun x hq hb => ⟨(Qz (Hp.le.refl _) S.imm), (fun e => by subst e; exact absurd hb (by decide))⟩, ?_⟩
   refine D_v E rfl rfl rfl (fun w hC => (QB E rfl rfl T74 hp_16 rfl)) ?_
   clear E a; intro a E
   replace S := S.front2
   replace S := S.front1
   have ho_21 := S.oneI
   replace S := S.front2
   refine D_x rfl rfl rfl (X_storeC E S rfl rfl (Tryz.sizeOf22 _) ho_21 hp_16 ?_)
   clear E a S; rintro a w E S
   replace S := back_15 _ _ _ _ _ S
   refine ⟨fun x hq hb => ⟨(Qz (Hp.le.refl _) S.imm), (fun e => by subst e; exact absurd hb (by decide))⟩, ?_⟩
   refine Ze (Zd ?_)
   refine B_n (T_n (Qa (S_v E rfl (Qq (m := ((k + 1 : Nat) : Int)) E rfl rfl (by omega) (by omega)) rfl fun _ E1 => S_m E1 rfl rfl ?_)))
   clear E a E1; intro a E
   refine Qc (T_n ?_)
   replace S := S.front1
   replace S := S.reM (L' := (QY (Value.int .i64) (JS f1 (l0.take (k + 1))))) (congrArg (QY (Value.int .i64)) (show JS f1 (l0.take k) = JS f1 (l0.take (k + 1)) by first | rfl | (simp [Js, JS, uqS]; done) | exact VW (by assumption) (by assumption) (by assumption) | exact VT (by assumption) (by assumption) | exact VX (by assumption) (by assumption) | exact VU (by assumption) (by assumption)))
   replace S := S.front1
   replace S := reLL S (show (Js f1 (l0.take k)).set jx (l_12 ++ [x_5]) = Js f1 (l0.take (k + 1)) by first | rfl | (simp [Js, JS, uqS]; done) | exact VW (by assumption) (by assumption) (by assumption) | exact VT (by assumption) (by assumption) | exact VX (by assumption) (by assumption) | exact VU (by assumption) (by assumption))
   exact ⟨k + 1, ⟨M_7, _, (hM_3.trans hM_7), S, E.keep ⟨rfl, rfl, rfl, rfl, rfl, rfl, trivial⟩, by (omega)⟩, by omega⟩
  ·refine Qb ?_
   refine Qa (S_m E rfl rfl fun _ E1 => S_m E1 rfl rfl fun _ E2 => S_m E2 rfl rfl ?_)
   clear E a E1 E2; intro a E
   replace S := S.front1
   refine S_v E rfl (Qp E rfl T74 (lenLL S)) rfl ?_
   clear E a; intro a E
   replace S := S.front1
   refine Zr (ZT (vf := (Value.int .i64)) (u := (((Js f1 (l0.take k)).length : Nat) : Int)) E S MT150 rfl rfl rfl ?_)
   clear E a S; rintro a w E S
   refine Qc (T_n (Qa (S_m E rfl rfl fun _ E1 => S_m E1 rfl rfl fun _ E2 => S_m E2 rfl rfl ?_)))
   clear E a E1 E2; intro a E
   obtain ⟨p_22, hp_22, qp_22⟩ := h0.at hx_5
   refine S_v E rfl (QB E rfl rfl T22 hp_22 rfl) rfl fun _ E1 => S_v E1 rfl (Qj E1 rfl Tryz.isAgg3 S.imm qp_22) rfl ?_
   clear E a E1; intro a E
   refine S_x (Qy (ys := [x_5]) E S rfl T22 rfl rfl rfl ?_)
   clear E a S; rintro a w v_23 E S
   have ho_25 := S.oneI
   refine S_x (Wf (vs := [v_23]) E S rfl T74 rfl rfl rfl (by intro u hu; simp only [List.mem_cons, List.not_mem_nil, or_false] at hu; rw [hu]; exact ho_25) ?_)
   clear E a S; rintro a w v_24 E S
   replace S := S.front3
   replace S := S.front2
   replace S := S.front2
   refine S_x (X_appendLL E S rfl rfl rfl T74 (by ((have h9 := qN f1 (l0.take k); simp only [List.length_take] at *; omega))) (by ((have h9 := qN f1 (l0.take k); simp only [List.length_take] at *; omega))) ?_)
   clear E a S; rintro a w v_26 E S
   refine S_a E rfl rfl fun _ E1 => Qc (B_n (T_n (Qa (S_v E1 rfl (Qq (m := ((k + 1 : Nat) : Int)) E1 rfl rfl (by omega) (by omega)) rfl fun _ E2 => S_m E2 rfl rfl ?_))))
   clear E a E1 E2; intro a E
   refine Qc (T_n ?_)
   replace S := S.front1
   replace S := S.reM (L' := (QY (Value.int .i64) (JS f1 (l0.take (k + 1))))) (congrArg (QY (Value.int .i64)) (show JB (JS f1 (l0.take k)) (f1 x_5) (((Js f1 (l0.take k)).length : Nat) : Int) = JS f1 (l0.take (k + 1)) by first | rfl | (simp [Js, JS, uqS]; done) | exact VW (by assumption) (by assumption) (by assumption) | exact VT (by assumption) (by assumption) | exact VX (by assumption) (by assumption) | exact VU (by assumption) (by assumption)))
   replace S := S.front1
   replace S := reLL S (show (Js f1 (l0.take k)) ++ [[x_5]] = Js f1 (l0.take (k + 1)) by first | rfl | (simp [Js, JS, uqS]; done) | exact VW (by assumption) (by assumption) (by assumption) | exact VT (by assumption) (by assumption) | exact VX (by assumption) (by assumption) | exact VU (by assumption) (by assumption))
   exact ⟨k + 1, ⟨M_7, _, (hM_3.trans hM_7), S, E.keep ⟨rfl, rfl, rfl, rfl, rfl, rfl, trivial⟩, by (omega)⟩, by omega⟩
 ·refine Qt (T_x (T_x (B_x (T_n (Qb (Qa (S_m E rfl rfl fun _ E1 => S_a E1 rfl rfl ?_)))))))
  clear E a E1; intro a E
  refine Qc (T_n (Qe ?_))
  have S0 := S; clear S
  obtain ⟨M_27, hM_27, hz_28, S⟩ := frzLL S0 (by (exact fun e he => Nat.le_trans (yz he) (by (rw [List.length_take]; omega)))) (by (exact Nat.le_trans (qN _ _) (by first | omega | (rw [List.length_take]; omega))))
  clear S0
  exact Qg E Tryz.results258 rfl ⟨_, rfl, M_27, (hM_3.trans hM_27), (RdS.eqL hz_28 (by (rw [List.take_of_length_le (by omega)]))), S.drop⟩
theorem GS {M : Hp} {v0 : Value} {l0 : List Int} (h0 : RdI M v0 l0){kk1 kn1 : Int} (gk1 : -9223372036854775808 ≤ kn1 ∧ kn1 ≤ 9223372036854775807) (hb : l0.length ≤ 1000000000000) :
  Pu Tryz.prog (.func (.func 179) #[] #[]) M [v0, .agg #[.int .i64 kk1, .int .i64 kn1]] (fun r M' => Jy M' r (Js (fun x => Qs kk1 kn1 x 0) l0)) := by
 refine Qk Tryz.func179 rfl Tryz.ntmps179 rfl Tryz.call179 ?_
 intro a w M1 H hM1 S E
 replace h0 := h0.le hM1
 have b0 := h0.bound
 refine Qb (Qa ?_)
 refine S_x (Jc (cs := #[.int .i64 kk1, .int .i64 kn1]) E S rfl rfl rfl ?_)
 clear E a S; rintro a w b_1 E S
 obtain ⟨M_2, hM_2, hb_1, S⟩ := S.freezeB
 replace h0 := h0.le hM_2
 refine S_a E rfl rfl fun _ E1 => Qc (T_n (Qb (Qa (S_m E1 rfl rfl fun _ E2 => S_v E2 rfl (QA E2 rfl (Tryz.isAgg30 _) (Tryz.sizeOf30 _) S.imm hb_1) rfl fun _ E3 => S_v E3 rfl (QT E3 rfl rfl) rfl ?_))))
 clear E a E1 E2 E3; intro a E
 refine S_x (Qr E S rfl rfl rfl (zC h0 ⟨rfl, fun zx1 => je (x1 := zx1) (by omega)⟩ (by (omega))) (Hp.le.refl _) ?_)
 clear E a S; rintro a v_4 w M_3 hM_3 hv_4 S E
 refine S_a E rfl rfl ?_
 clear E a; intro a E
 refine Qc (T_n (Qe ?_))
 exact Qg E Tryz.results179 rfl ⟨_, rfl, M_3, (hM_2.trans hM_3), hv_4, S⟩
theorem zA {M : Hp} {v0 : Value} {l0 : List Int} (h0 : RdI M v0 l0){n1 n2 : Nat} (hn : 0 < n1) (hs : 0 < n2) (hb1 : n1 ≤ 1000000) (hb2 : n2 ≤ 1000000) (hb : l0.length ≤ 1000000) :
  Pu Tryz.prog (.func (.func 262) #[] #[]) M [v0, .int .i64 ((n1 : Nat) : Int), .int .i64 ((n2 : Nat) : Int)] (fun r M' => Jy M' r (YY n1 n2 l0)) := by
 refine Qk Tryz.func262 rfl Tryz.ntmps262 rfl Tryz.call262 ?_
 intro a w M1 H hM1 S E
 replace h0 := h0.le hM1
 have b0 := h0.bound
 refine Qb (Qa (S_a E rfl rfl fun _ E1 => Qc (T_n (Qb (Qb (Qa (S_m E1 rfl rfl fun _ E2 => S_v E2 rfl (ZV E2 rfl rfl) rfl ?_)))))))
 clear E a E1 E2; intro a E
 refine Qc (T_n ?_)
 have hc_1 : (decide (((n1 : Nat) : Int) ≤ 0)) = false := by (apply decide_eq_false; omega)
 refine Ja E rfl hc_1 ?_
 refine Qh (T_n (Qb (Qb (Qa (S_m E rfl rfl fun _ E1 => S_v E1 rfl (ZV E1 rfl rfl) rfl ?_)))))
 clear E a E1; intro a E
 refine Qc (T_n ?_)
 have hc_2 : (decide (((n2 : Nat) : Int) ≤ 0)) = false := by (apply decide_eq_false; omega)
 refine Ja E rfl hc_2 ?_
 refine Qh (T_n (Qb (Qa (S_m E rfl rfl fun _ E1 => S_v E1 rfl (Qp E1 rfl T22 h0.len) rfl fun _ E2 => S_m E2 rfl rfl fun _ E3 => S_v E3 rfl (Jg (m := (((l0).length : Nat) : Int) - ((n1 : Nat) : Int)) E3 rfl rfl (by omega) (by omega)) rfl fun _ E4 => S_a E4 rfl rfl fun _ E5 => Qc (T_n (Qb (Qb (Qa (S_m E5 rfl rfl ?_)))))))))
 clear E a E1 E2 E3 E4 E5; intro a E
 refine S_v E rfl (QG E rfl rfl) rfl ?_
 clear E a; intro a E
 refine Qc (T_n ?_)
 refine Qn E rfl (fun hc_3 => ?_) (fun hc_3 => ?_)
 ·refine Qb (Qa ?_)
  refine S_x (Wf (vs := []) E S rfl T74 rfl rfl rfl (fun u hu => by simp at hu) ?_)
  clear E a S; rintro a w v_4 E S
  have hr_5 : JH (RSl 1 Jr) 1 M1 ([] : List (List Int)) [] := JH.nil
  replace S : St w M1 (JD 22 1 v_4 ([] : List (List Int)).length [] :: _) := S
  refine S_a E rfl rfl ?_
  clear E a; intro a E
  refine Qc (T_n (Qe ?_))
  refine T_r ?_
  have S0 := S; clear S
  obtain ⟨M_6, hM_6, hz_7, S⟩ := S0.freezeR hr_5 (QN QI) (by ((simp [Jn]; done)))
  clear S0
  replace hz_7 : Jy M_6 v_4 ([] : List (List Int)) := hz_7
  replace h0 := h0.le hM_6
  exact Qg E Tryz.results262 rfl ⟨_, rfl, M_6, hM_6, (RdS.eqL hz_7 (by (exact sli_none (by omega)))), S⟩
 ·have hdv := Nat.div_le_self (l0.length - n1) n2
  have hdv0 := Int.natCast_nonneg ((l0.length - n1) / n2)
  replace E := E.ival (t := 7) (c := ((l0.length - n1 : Nat) : Int)) rfl (by omega)
  refine Qh (T_n (Qb (Qa (S_m E rfl rfl fun _ E1 => S_m E1 rfl rfl fun _ E2 => S_v E2 rfl (R_quon (p := l0.length - n1) (q := n2) E2 rfl rfl (by omega) (by omega)) rfl fun _ E3 => S_v E3 rfl (Qq (m := (((l0.length - n1) / n2 + 1 : Nat) : Int)) E3 rfl rfl (by (have h9 := Nat.div_le_self (l0.length - n1) n2; omega)) (by (have h9 := Nat.div_le_self (l0.length - n1) n2; omega))) rfl ?_))))
  clear E a E1 E2 E3; intro a E
  refine S_x (Jf (k := (l0.length - n1) / n2 + 1) E S rfl rfl rfl T74 rfl (by omega) (by (have h9 := Nat.div_le_self (l0.length - n1) n2; omega)) (by (have h9 := Nat.div_le_self (l0.length - n1) n2; omega)) ?_)
  clear E a S; rintro a w v_8 E S
  have hr_9 : JH (RSl 1 Jr) 1 M1 ([] : List (List Int)) [] := JH.nil
  replace S : St w M1 (JD 22 1 v_8 ([] : List (List Int)).length [] :: _) := S
  refine S_a E rfl rfl fun _ E1 => Qc (T_n (Qb (Qb (Qa (S_a E1 rfl rfl ?_)))))
  clear E a E1; intro a E
  refine Qc (T_n (Qi ?_))
  have hre : ([] : List (List Int)) = JA n1 n2 l0 0 := by first | rfl | exact JC _ _ _ _
  replace S := S.reR hre
  replace hr_9 := hr_9.eq hre
  clear hre
  refine Qx (γ := Nat) (fun (k : Nat) a w => ∃ (M_10 : Hp) (u8 : Value) (xs8 : List Value), Hp.le M1 M_10 ∧ St w M_10 (JD 22 1 u8 (JA n1 n2 l0 k).length xs8 :: H) ∧ Env a 50 [] [(0, v0), (1, .int .i64 ((n1 : Nat) : Int)), (2, .int .i64 ((n2 : Nat) : Int)), (7, .int .i64 ((l0.length - n1 : Nat) : Int)), (8, u8), (9, .int .i64 ((k * n2 : Nat) : Int))] ∧ (IsV n1 n2 l0.length k) ∧ (n1 ≤ l0.length) ∧ (k ≤ l0.length + 1) ∧ JH (RSl 1 Jr) 1 M_10 (JA n1 n2 l0 k) xs8) (fun k => l0.length + 1 - k) 0 ⟨M1, _, _, Hp.le.refl _, S, E.keep ⟨rfl, rfl, rfl, rfl, rfl, QM (i := 0) rfl (by (simp)), trivial⟩, (by exact IsV_zero _ _ _), (by omega), (by omega), hr_9⟩ ?_
  try clear E
  try clear S
  try clear a
  try clear w
  rintro k a w ⟨M_10, u8, xs8, hM_10, S, E, hL0_0, hL0_1, hL0_2, hr8⟩
  replace h0 := h0.le hM_10
  have hkk : k ≤ k * n2 := Nat.le_mul_of_pos_right k hs
  have hwl := Jn n1 n2 l0 k
  refine Qb (Qb (Qa (S_m E rfl rfl fun _ E1 => S_m E1 rfl rfl fun _ E2 => S_v E2 rfl (ZV E2 rfl rfl) rfl ?_)))
  clear E a E1 E2; intro a E
  refine Qc (T_n ?_)
  refine Qn E rfl (fun hc_11 => ?_) (fun hc_11 => ?_)
  ·refine Qh (T_n (Qb (Qi (Qb (Qa (S_m E rfl rfl ?_))))))
   clear E a; intro a E
   refine S_x (Yk (k := n1) E S rfl rfl rfl T22 (by omega) (by omega) (by (have h9 := Nat.div_le_self (l0.length - n1) n2; omega)) (by (have h9 := Nat.div_le_self (l0.length - n1) n2; omega)) ?_)
   clear E a S; rintro a w v_12 E S
   replace S := S.madeI
   refine S_a E rfl rfl fun _ E1 => Qc (T_n (Qb (Qa (S_m E1 rfl rfl fun _ E2 => S_m E2 rfl rfl fun _ E3 => S_m E3 rfl rfl fun _ E4 => S_m E4 rfl rfl fun _ E5 => S_m E5 rfl rfl ?_))))
   clear E a E1 E2 E3 E4 E5; intro a E
   refine S_v E rfl (Qq (m := ((k * n2 + n1 : Nat) : Int)) E rfl rfl (by omega) (by omega)) rfl ?_
   clear E a; intro a E
   obtain ⟨v_13, sv_13, hv_13⟩ := h0.subv (k * n2) (k * n2 + n1) (by omega) (by omega)
   replace hv_13 : RdI M_10 v_13 (((l0).take (k * n2 + n1)).drop (k * n2)) := hv_13
   refine S_v E rfl (Je E rfl rfl rfl T22 sv_13 (by omega) (by omega)) rfl ?_
   clear E a; intro a E
   refine S_x (YO (xs := (List.replicate n1 (0 : Int))) (ys := ((l0).take (k * n2 + n1)).drop (k * n2)) E S rfl rfl rfl T22 hv_13 ?_)
   clear E a S; rintro a w E S
   replace S := S.re1 (l' := (l0.drop (k * n2)).take n1) (by (exact copy_win (by omega)))
   refine Qc (T_n (Qa (S_m E rfl rfl fun _ E1 => S_m E1 rfl rfl ?_)))
   clear E a E1; intro a E
   have S0 := S; clear S
   obtain ⟨M_15, hM_15, hz_16, S⟩ := S0.freezeI (by ((simp [Jn]; omega)))
   clear S0
   replace hr8 := hr8.le (QN QI) hM_15
   refine S_x (JP (R := RSl 1 Jr) (vs := [v_12]) (xs := [(l0.drop (k * n2)).take n1]) (QN QI) E S rfl T74 rfl rfl rfl (by intro u hu; simp only [List.mem_cons, List.not_mem_nil, or_false] at hu; rcases hu with rfl <;> first | exact RdI.one hz_16 | rfl) rfl (ZC (R := RSl 1 Jr) (RdI.row hz_16) YQ) ?_)
   clear E a S; rintro a v_14 w M_17 hM_17 hv_14 S E
   replace hv_14 : Jy M_17 v_14 [(l0.drop (k * n2)).take n1] := hv_14
   replace hr8 := hr8.le (QN QI) hM_17
   refine S_x (ZU (R := (RSl 1 Jr)) (zs := JA n1 n2 l0 k) (ys := [(l0.drop (k * n2)).take n1]) E S hr8 rfl rfl rfl T74 hv_14 Vf (by (simp [Jn]; omega)) (by (simp [Jn]; omega)) ?_)
   clear E a S; rintro a w v_18 xs_19 E hr_20 S
   refine S_a E rfl rfl fun _ E1 => Qc (B_n (T_n (Qa (S_m E1 rfl rfl fun _ E2 => S_m E2 rfl rfl fun _ E3 => S_v E3 rfl (Qq (m := ((k * n2 + n2 : Nat) : Int)) E3 rfl rfl (by omega) (by omega)) rfl fun _ E4 => S_a E4 rfl rfl ?_))))
   clear E a E1 E2 E3 E4; intro a E
   refine Qc (T_n ?_)
   have hre : (JA n1 n2 l0 k) ++ [(l0.drop (k * n2)).take n1] = JA n1 n2 l0 (k + 1) := by first | rfl | exact JC _ _ _ _
   replace S := S.reR hre
   replace hr_20 := hr_20.eq hre
   clear hre
   exact ⟨k + 1, ⟨M_17, _, _, (hM_10.trans (hM_15.trans hM_17)), S, E.keep ⟨rfl, rfl, rfl, rfl, rfl, QM (i := k * n2 + n2) rfl (by (rw [Nat.succ_mul])), trivial⟩, (by exact IsV_succ (by omega)), (by omega), (by omega), hr_20⟩, by omega⟩
  ·refine Qt (T_x (T_x (B_x (T_n (Qb (Qa (S_m E rfl rfl fun _ E1 => S_a E1 rfl rfl ?_)))))))
   clear E a E1; intro a E
   refine Qc (T_n (Qe ?_))
   have S0 := S; clear S
   obtain ⟨M_21, hM_21, hz_22, S⟩ := S0.freezeR hr8 (QN QI) (by (omega))
   clear S0
   replace hz_22 : Jy M_21 u8 (JA n1 n2 l0 k) := hz_22
   exact Qg E Tryz.results262 rfl ⟨_, rfl, M_21, (hM_10.trans hM_21), (RdS.eqL hz_22 (by (exact win_end hs (by assumption) (by omega)))), S⟩
theorem lo_Window {M : Hp} {v0 : Value} {l0 : List Int} (h0 : RdI M v0 l0){n1 : Nat} (hn : 0 < n1) (hb1 : n1 ≤ 1000000) (hb : l0.length ≤ 1000000) :
  Pu Tryz.prog (.func (.func 260) #[] #[]) M [v0, .int .i64 ((n1 : Nat) : Int)] (fun r M' => Jy M' r (YY n1 1 l0)) := by
 refine Qk Tryz.func260 rfl Tryz.ntmps260 rfl Tryz.call260 ?_
 intro a w M1 H hM1 S E
 replace h0 := h0.le hM1
 have b0 := h0.bound
 refine Qb (Qa (S_a E rfl rfl fun _ E1 => Qc (T_n (Qb (Qb (Qa (S_m E1 rfl rfl fun _ E2 => S_v E2 rfl (ZV E2 rfl rfl) rfl ?_)))))))
 clear E a E1 E2; intro a E
 refine Qc (T_n ?_)
 have hc_1 : (decide (((n1 : Nat) : Int) ≤ 0)) = false := by (apply decide_eq_false; omega)
 refine Ja E rfl hc_1 ?_
 refine Qh (T_n (Qb (Qa (S_m E rfl rfl fun _ E1 => S_m E1 rfl rfl ?_))))
 clear E a E1; intro a E
 refine S_x (Qr E S rfl rfl rfl (zA h0 (by omega) (by (simp; done)) (by omega) (by (simp; done)) (by omega)) (Hp.le.refl _) ?_)
 clear E a S; rintro a v_3 w M_2 hM_2 hv_3 S E
 refine S_a E rfl rfl ?_
 clear E a; intro a E
 refine Qc (T_n (Qe ?_))
 exact Qg E Tryz.results260 rfl ⟨_, rfl, M_2, hM_2, hv_3, S⟩
theorem yR {M : Hp} {v0 : Value} {l0 : List Int} {n1 : Nat} (hn : 0 < n1) (hb1 : n1 ≤ 1000000) (hb : l0.length ≤ 1000000) {bx0 bx1 : Nat} (hbx0 : M bx0 = some (.cells #[v0] 22)) (h0 : RdI M v0 l0) (hbx1 : M bx1 = some (.cells #[.int .i64 (n1 : Int)] 3)) :
  Pu Tryz.prog (.func (.func 259) #[] #[.pointer (some ⟨bx0, 0, none⟩), .pointer (some ⟨bx1, 0, none⟩)]) M [] (fun r M' => Jy M' r (YY n1 1 l0)) := by
 refine Qk Tryz.func259 rfl Tryz.ntmps259 rfl Tryz.call259 ?_
 intro a w M1 H hM1 S E
 replace hbx0 := hM1.2 _ _ hbx0
 replace hbx1 := hM1.2 _ _ hbx1
 replace h0 := h0.le hM1
 have b0 := h0.bound
 have hsl := yt (n := n1) (s := 1) (l := l0) (by omega) hn
 refine Qb (Qa (S_a E rfl rfl fun _ E1 => Qc (T_n (Qb (Qa (S_v E1 rfl (Qj E1 rfl Tryz.isAgg22 S.imm (Jw hbx0)) rfl fun _ E2 => S_v E2 rfl (Qj E2 rfl Tryz.isAgg3 S.imm (Jw hbx1)) rfl ?_))))))
 clear E a E1 E2; intro a E
 refine S_x (Qr E S rfl rfl rfl (lo_Window h0 (by omega) (by omega) (by omega)) (Hp.le.refl _) ?_)
 clear E a S; rintro a v_2 w M_1 hM_1 hv_2 S E
 refine S_a E rfl rfl ?_
 clear E a; intro a E
 refine Qc (T_n (Qe ?_))
 exact Qg E Tryz.results259 rfl ⟨_, rfl, M_1, hM_1, hv_2, S⟩
theorem impl_Window {M : Hp} {v0 : Value} {l0 : List Int} (h0 : RdI M v0 l0){n1 : Nat} (hn : 0 < n1) (hb1 : n1 ≤ 1000000) (hb : l0.length ≤ 1000000) :
  Pu Tryz.prog (.func (.func 180) #[] #[]) M [v0, .int .i64 ((n1 : Nat) : Int)] (fun r M' => ∃ t0, r = .tuple #[t0, .bool true] ∧ Jy M' t0 (YY n1 1 l0)) := by
 refine Qk Tryz.func180 rfl Tryz.ntmps180 rfl Tryz.call180 ?_
 intro a w M1 H hM1 S E
 replace h0 := h0.le hM1
 have b0 := h0.bound
 refine Qb (Qa ?_)
 refine S_x (Jc (cs := #[v0]) E S rfl rfl (cells_one (RdS.one' h0)) ?_)
 clear E a S; rintro a w b_1 E S
 obtain ⟨M_2, hM_2, hb_1, S⟩ := S.freezeB
 replace h0 := h0.le hM_2
 refine S_x (Jc (cs := #[.int .i64 ((n1 : Nat) : Int)]) E S rfl rfl rfl ?_)
 clear E a S; rintro a w b_3 E S
 obtain ⟨M_4, hM_4, hb_3, S⟩ := S.freezeB
 replace h0 := h0.le hM_4
 replace hb_1 := hM_4.2 _ _ hb_1
 refine S_a E rfl rfl fun _ E1 => S_a E1 rfl rfl fun _ E2 => Qc (T_n (Qb (Qa (S_v E2 rfl (QT E2 rfl rfl) rfl ?_))))
 clear E a E1 E2; intro a E
 refine S_x (Qr E S rfl rfl rfl (Wa ⟨rfl, yR  (by omega) (by omega) (by omega) hb_1 h0 hb_3⟩) (Hp.le.refl _) ?_)
 clear E a S; rintro a _ w M_5 hM_5 ⟨v_6, rfl, hv_6⟩ S E
 refine S_v E rfl (Qm E rfl rfl) rfl fun _ E1 => S_v E1 rfl (Qm E1 rfl rfl) rfl fun _ E2 => S_a E2 rfl rfl fun _ E3 => S_a E3 rfl rfl ?_
 clear E a E1 E2 E3; intro a E
 refine Qc (T_n (Qe ?_))
 exact Jt E Tryz.results180 rfl rfl ⟨_, rfl, M_5, (hM_2.trans (hM_4.trans hM_5)), ⟨_, (by rfl), (RdS.eqL hv_6 (by (rfl)))⟩, S⟩
theorem jF {M : Hp} {v0 : Value} {l0 : List Int} {n1 n2 : Nat} (hn : 0 < n1) (hs : 0 < n2) (hb1 : n1 ≤ 1000000) (hb2 : n2 ≤ 1000000) (hb : l0.length ≤ 1000000) {bx0 bx1 bx2 : Nat} (hbx0 : M bx0 = some (.cells #[v0] 22)) (h0 : RdI M v0 l0) (hbx1 : M bx1 = some (.cells #[.int .i64 (n1 : Int)] 3)) (hbx2 : M bx2 = some (.cells #[.int .i64 (n2 : Int)] 3)) :
  Pu Tryz.prog (.func (.func 261) #[] #[.pointer (some ⟨bx0, 0, none⟩), .pointer (some ⟨bx1, 0, none⟩), .pointer (some ⟨bx2, 0, none⟩)]) M [] (fun r M' => Jy M' r (YY n1 n2 l0)) := by
 refine Qk Tryz.func261 rfl Tryz.ntmps261 rfl Tryz.call261 ?_
 intro a w M1 H hM1 S E
 replace hbx0 := hM1.2 _ _ hbx0
 replace hbx1 := hM1.2 _ _ hbx1
 replace hbx2 := hM1.2 _ _ hbx2
 replace h0 := h0.le hM1
 have b0 := h0.bound
 have hsl := yt (n := n1) (s := n2) (l := l0) (by omega) hn
 refine Qb (Qa (S_a E rfl rfl fun _ E1 => Qc (T_n (Qb (Qa (S_v E1 rfl (Qj E1 rfl Tryz.isAgg22 S.imm (Jw hbx0)) rfl fun _ E2 => S_v E2 rfl (Qj E2 rfl Tryz.isAgg3 S.imm (Jw hbx1)) rfl fun _ E3 => S_v E3 rfl (Qj E3 rfl Tryz.isAgg3 S.imm (Jw hbx2)) rfl ?_))))))
 clear E a E1 E2 E3; intro a E
 refine S_x (Qr E S rfl rfl rfl (zA h0 (by omega) (by omega) (by omega) (by omega) (by omega)) (Hp.le.refl _) ?_)
 clear E a S; rintro a v_2 w M_1 hM_1 hv_2 S E
 refine S_a E rfl rfl ?_
 clear E a; intro a E
 refine Qc (T_n (Qe ?_))
 exact Qg E Tryz.results261 rfl ⟨_, rfl, M_1, hM_1, hv_2, S⟩
theorem yS {M : Hp} {v0 : Value} {l0 : List Int} (h0 : RdI M v0 l0){n1 n2 : Nat} (hn : 0 < n1) (hs : 0 < n2) (hb1 : n1 ≤ 1000000) (hb2 : n2 ≤ 1000000) (hb : l0.length ≤ 1000000) :
  Pu Tryz.prog (.func (.func 181) #[] #[]) M [v0, .int .i64 ((n1 : Nat) : Int), .int .i64 ((n2 : Nat) : Int)] (fun r M' => ∃ t0, r = .tuple #[t0, .bool true] ∧ Jy M' t0 (YY n1 n2 l0)) := by
 refine Qk Tryz.func181 rfl Tryz.ntmps181 rfl Tryz.call181 ?_
 intro a w M1 H hM1 S E
 replace h0 := h0.le hM1
 have b0 := h0.bound
 refine Qb (Qa ?_)
 refine S_x (Jc (cs := #[v0]) E S rfl rfl (cells_one (RdS.one' h0)) ?_)
 clear E a S; rintro a w b_1 E S
 obtain ⟨M_2, hM_2, hb_1, S⟩ := S.freezeB
 replace h0 := h0.le hM_2
 refine S_x (Jc (cs := #[.int .i64 ((n1 : Nat) : Int)]) E S rfl rfl rfl ?_)
 clear E a S; rintro a w b_3 E S
 obtain ⟨M_4, hM_4, hb_3, S⟩ := S.freezeB
 replace h0 := h0.le hM_4
 replace hb_1 := hM_4.2 _ _ hb_1
 refine S_x (Jc (cs := #[.int .i64 ((n2 : Nat) : Int)]) E S rfl rfl rfl ?_)
 clear E a S; rintro a w b_5 E S
 obtain ⟨M_6, hM_6, hb_5, S⟩ := S.freezeB
 replace h0 := h0.le hM_6
 replace hb_1 := hM_6.2 _ _ hb_1
 replace hb_3 := hM_6.2 _ _ hb_3
 refine S_a E rfl rfl fun _ E1 => S_a E1 rfl rfl fun _ E2 => Qc (T_n (Qb (Qa (S_v E2 rfl (QT E2 rfl rfl) rfl ?_))))
 clear E a E1 E2; intro a E
 refine S_x (Qr E S rfl rfl rfl (Wa ⟨rfl, jF  (by omega) (by omega) (by omega) (by omega) (by omega) hb_1 h0 hb_3 hb_5⟩) (Hp.le.refl _) ?_)
 clear E a S; rintro a _ w M_7 hM_7 ⟨v_8, rfl, hv_8⟩ S E
 refine S_v E rfl (Qm E rfl rfl) rfl fun _ E1 => S_v E1 rfl (Qm E1 rfl rfl) rfl fun _ E2 => S_a E2 rfl rfl fun _ E3 => S_a E3 rfl rfl ?_
 clear E a E1 E2 E3; intro a E
 refine Qc (T_n (Qe ?_))
 exact Jt E Tryz.results181 rfl rfl ⟨_, rfl, M_7, (hM_2.trans (hM_4.trans (hM_6.trans hM_7))), ⟨_, (by rfl), (RdS.eqL hv_8 (by (rfl)))⟩, S⟩
set_option maxRecDepth 100000 in
set_option maxHeartbeats 4000000 in
def Tryz.lsort_ren : Go.Shelf.Ren := ⟨fun | 5 => 336 | 8 => 341 | 7 => 340 | 19 => 351 | 20 => 352 | 10 => 342 | 11 => 343 | 12 => 344 | 13 => 345 | 14 => 346 | 15 => 347 | 16 => 348 | 17 => 349 | 18 => 350 | 30 => 353 | 31 => 354 | 32 => 355 | 33 => 356 | 34 => 357 | 35 => 358 | 40 => 359 | n => n, fun | 23 => 22 | 25 => 3 | 3 => 3 | 32 => 54 | 22 => 22 | 0 => 0 | 44 => 165 | 46 => 149 | 4 => 4 | 36 => 159 | 35 => 158 | 41 => 115 | 5 => 5 | 9 => 9 | 53 => 167 | 57 => 171 | 63 => 173 | 64 => 174 | n => n, fun | n => n⟩
set_option maxRecDepth 100000 in
set_option maxHeartbeats 4000000 in
theorem Tryz.lsort : Go.Proofs.SlLaysM.n5 Tryz.prog Tryz.lsort_ren := {
  mixed := by kernel_rfl,
  f5 := ⟨Tryz.f336.name, by decide, Tryz.func336.trans (congrArg some (by kernel_rfl))⟩,
  f7 := ⟨Tryz.f340.name, by decide, Tryz.func340.trans (congrArg some (by kernel_rfl))⟩,
  f8 := Tryz.func341.trans (congrArg some (by kernel_rfl)),
  f10 := ⟨Tryz.f342.name, by decide, Tryz.func342.trans (congrArg some (by kernel_rfl))⟩,
  f11 := ⟨Tryz.f343.name, by decide, Tryz.func343.trans (congrArg some (by kernel_rfl))⟩,
  f12 := ⟨Tryz.f344.name, by decide, Tryz.func344.trans (congrArg some (by kernel_rfl))⟩,
  f13 := ⟨Tryz.f345.name, by decide, Tryz.func345.trans (congrArg some (by kernel_rfl))⟩,
  f14 := ⟨Tryz.f346.name, by decide, Tryz.func346.trans (congrArg some (by kernel_rfl))⟩,
  f15 := ⟨Tryz.f347.name, by decide, Tryz.func347.trans (congrArg some (by kernel_rfl))⟩,
  f16 := ⟨Tryz.f348.name, by decide, Tryz.func348.trans (congrArg some (by kernel_rfl))⟩,
  f17 := ⟨Tryz.f349.name, by decide, Tryz.func349.trans (congrArg some (by kernel_rfl))⟩,
  f18 := ⟨Tryz.f350.name, by decide, Tryz.func350.trans (congrArg some (by kernel_rfl))⟩,
  f19 := Tryz.func351.trans (congrArg some (by kernel_rfl)),
  f20 := Tryz.func352.trans (congrArg some (by kernel_rfl)),
  f30 := ⟨Tryz.f353.name, by decide, Tryz.func353.trans (congrArg some (by kernel_rfl))⟩,
  f31 := Tryz.func354.trans (congrArg some (by kernel_rfl)),
  f32 := Tryz.func355.trans (congrArg some (by kernel_rfl)),
  f33 := ⟨Tryz.f356.name, by decide, Tryz.func356.trans (congrArg some (by kernel_rfl))⟩,
  f34 := ⟨Tryz.f357.name, by decide, Tryz.func357.trans (congrArg some (by kernel_rfl))⟩,
  f35 := ⟨Tryz.f358.name, by decide, Tryz.func358.trans (congrArg some (by kernel_rfl))⟩,
  f40 := ⟨Tryz.f359.name, by decide, Tryz.func359.trans (congrArg some (by kernel_rfl))⟩,
  t0 := Tryz.underlying0,
  a0 := Tryz.isAgg0,
  z0 := Tryz.sizeOf0,
  v0 := Tryz.zeroValue0,
  t3 := Tryz.underlying3,
  a3 := Tryz.isAgg3,
  z3 := Tryz.sizeOf3,
  v3 := Tryz.zeroValue3,
  t4 := Tryz.underlying4,
  a4 := Tryz.isAgg4,
  z4 := Tryz.sizeOf4,
  v4 := Tryz.zeroValue4,
  t5 := Tryz.underlying5,
  a5 := Tryz.isAgg5,
  z5 := Tryz.sizeOf5,
  v5 := Tryz.zeroValue5,
  t9 := Tryz.underlying9,
  a9 := Tryz.isAgg9,
  z9 := Tryz.sizeOf9,
  v9 := Tryz.zeroValue9,
  t22 := Tryz.underlying22,
  a22 := Tryz.isAgg22,
  z22 := Tryz.sizeOf22,
  v22 := Tryz.zeroValue22,
  t23 := Tryz.underlying22,
  a23 := Tryz.isAgg22,
  z23 := Tryz.sizeOf22,
  v23 := Tryz.zeroValue22,
  t25 := Tryz.underlying3,
  a25 := Tryz.isAgg3,
  z25 := Tryz.sizeOf3,
  v25 := Tryz.zeroValue3,
  t32 := Tryz.underlying54,
  a32 := Tryz.isAgg54,
  z32 := Tryz.sizeOf54,
  v32 := Tryz.zeroValue54,
  t35 := Tryz.underlying158,
  a35 := Tryz.isAgg158,
  z35 := Tryz.sizeOf158,
  v35 := Tryz.zeroValue158,
  t36 := Tryz.underlying159,
  a36 := Tryz.isAgg159,
  z36 := Tryz.sizeOf159,
  v36 := Tryz.zeroValue159,
  t41 := Tryz.underlying115,
  a41 := Tryz.isAgg115,
  z41 := Tryz.sizeOf115,
  v41 := Tryz.zeroValue115,
  t44 := Tryz.underlying165,
  a44 := Tryz.isAgg165,
  z44 := Tryz.sizeOf165,
  v44 := Tryz.zeroValue165,
  t46 := Tryz.underlying149,
  a46 := Tryz.isAgg149,
  z46 := Tryz.sizeOf149,
  v46 := Tryz.zeroValue149,
  t53 := Tryz.underlying167,
  a53 := Tryz.isAgg167,
  z53 := Tryz.sizeOf167,
  v53 := Tryz.zeroValue167,
  t57 := Tryz.underlying171,
  a57 := Tryz.isAgg171,
  z57 := Tryz.sizeOf171,
  v57 := Tryz.zeroValue171,
  t63 := Tryz.underlying173,
  a63 := Tryz.isAgg173,
  z63 := Tryz.sizeOf173,
  v63 := Tryz.zeroValue173,
  t64 := Tryz.underlying174,
  a64 := Tryz.isAgg174,
  z64 := Tryz.sizeOf174,
  v64 := Tryz.zeroValue174 }
theorem vC {M : Hp} {v0 : Value} {l0 : List Int} (b0 : l0.length ≤ 1000000000000) :
  Sp Tryz.prog (.func (.func 336) #[] #[]) M [v0] [QR 3 v0 l0] (fun r M' C' => C' = [QR 3 v0 (VH l0)]) :=
 sort_sp Tryz.call336 (fun blk off cap zs w a b c => AnyM.slices_Sort_int Tryz.lsort blk off cap zs w a b c) (fun p cap w => AnyM.slices_Sort_int_none Tryz.lsort p cap w) b0
theorem sort_Ints {M : Hp} {v0 : Value} {l0 : List Int} (b0 : l0.length ≤ 1000000000000) :
  Sp Tryz.prog (.func (.func 319) #[] #[]) M [v0] [QR 3 v0 l0] (fun r M' C' => C' = [QR 3 v0 (VH l0)]) := by
 refine Wg Tryz.func319 rfl Tryz.ntmps319 rfl Tryz.call319 ?_
 intro a w M1 H hM1 S E
 replace S : St w M1 (QR 3 v0 l0 :: _) := S
 refine Qa (S_m E rfl rfl ?_)
 clear E a; intro a E
 refine S_x (Vv (p := [QR 3 v0 l0]) E S rfl rfl rfl (vC (by (omega))) (Hp.le.refl _) ?_)
 clear E a S; rintro a v_2 w M_1 _ hM_1 rfl S E
 replace S : St w M_1 (QR 3 v0 (VH l0) :: _) := S
 refine Qc ?_
 refine F_nrm ?_
 exact F_ret0 E Tryz.results319 ⟨_, rfl, M_1, _, hM_1, rfl, S⟩
theorem impl_keys {M : Hp} {m0 : Value} {q0 : List Int} (hm0 : RdM M m0 (Sl.encS q0)) (hb : q0.length ≤ 1000000000000) :
  Pu Tryz.prog (.func (.func 263) #[] #[]) M [m0] (fun r M' => RdI M' r (VH q0)) := by
 refine Qk Tryz.func263 rfl Tryz.ntmps263 rfl Tryz.call263 ?_
 intro a w M1 H hM1 S E
 replace hm0 := hm0.le hM1
 refine Qb (Qa (S_a E rfl rfl fun _ E1 => Qc (T_n (Qb (Qa (S_a E1 rfl rfl fun _ E2 => Qc (T_n (Qb (Qb (Qa (S_m E2 rfl rfl ?_)))))))))))
 clear E a E1 E2; intro a E
 refine S_x (X_range E S rfl Yg hm0 rfl ?_)
 clear E a S; rintro a w i_1 es_2 ck_3 E hf_4 S
 replace S : St w M1 (ItO m0 es_2 ck_3 i_1 (Sl.encS ([] : List Int)) :: _) := S
 refine Qc (T_n (Qi ?_))
 replace S := (S.ownNil (e := 3) (sz := 1)).made0
 replace S := S.front1
 replace S := S.front1
 replace S := S.re1 (l' := []) (by rfl)
 replace S := S.front1
 replace S := S.reIt (p' := (Sl.encS [])) (congrArg Sl.encS (show ([] : List Int) = [] by first | rfl | (simp; done)))
 refine Qx (γ := List Int) (fun (p : List Int) a w => ∃ (M_6 : Hp) (u3 : Value), Hp.le M1 M_6 ∧ St w M_6 (ItO m0 es_2 ck_3 i_1 (Sl.encS p) :: QR 3 u3 p :: H) ∧ Env a 18 [] [(3, u3), (6, .pointer (some ⟨i_1, 0, none⟩))] ∧ (p.Nodup) ∧ (∀ z ∈ p, z ∈ q0) ∧ (p.length ≤ q0.length)) (fun p => q0.length - p.length) [] ⟨M1, _, Hp.le.refl _, S, E.keep ⟨rfl, rfl, trivial⟩, (by simp), (by simp), (by simp)⟩ ?_
 try clear E
 try clear S
 try clear a
 try clear w
 rintro p a w ⟨M_6, u3, hM_6, S, E, hL0_0, hL0_1, hL0_2⟩
 replace hf_4 := hf_4.le hM_6
 refine Qb (Qa ?_)
 refine S_x (X_nextS E S rfl hf_4 rfl (by assumption) (by assumption) ?_ ?_)
 ·clear E a S; rintro a E hpm_7 S
  refine S_v E rfl (Qm E rfl rfl) rfl ?_
  clear E a; intro a E
  refine Qc (T_n (Qb ?_))
  refine Ja E rfl rfl ?_
  refine Qt (T_x (T_x (B_x (T_n (Qb (Qa (S_m E rfl rfl ?_)))))))
  clear E a; intro a E
  replace S := S.front1
  refine S_x (Vv (p := [QR 3 u3 p]) E S rfl rfl rfl (sort_Ints (by (omega))) (Hp.le.refl _) ?_)
  clear E a S; rintro a v_9 w M_8 _ hM_8 rfl S E
  replace S : St w M_8 (QR 3 u3 (VH p) :: _) := S
  replace hf_4 := hf_4.le hM_8
  refine Qc (T_n (Qb (Qa (S_m E rfl rfl fun _ E1 => S_a E1 rfl rfl ?_))))
  clear E a E1; intro a E
  refine Qc (T_n (Qe ?_))
  have S0 := S; clear S
  obtain ⟨M_10, hM_10, hz_11, S⟩ := S0.freezeI (by ((rw [UK]; omega)))
  clear S0
  replace hf_4 := hf_4.le hM_10
  exact Qg E Tryz.results263 rfl ⟨_, rfl, M_10, (hM_6.trans (hM_8.trans hM_10)), (RdS.eqL hz_11 (by (exact (yo (by assumption)).symm))), S.drop⟩
 ·clear E a S w; rintro a w k_12 E hk_13 hk_13n hk_13l S
  refine S_v E rfl (Qm E rfl rfl) rfl ?_
  clear E a; intro a E
  refine Qc (T_n (Qb ?_))
  refine ZK E rfl rfl ?_
  refine Qh (T_n (Qi (Qb (Qa (S_v E rfl (R_entry (k := k_12) (v := .agg #[]) E (by have S1 := S; simp only [Sl.encS, List.map_append, List.map_cons, List.map_nil] at S1; exact S1) hf_4 rfl) rfl fun _ E1 => S_v E1 rfl (Qm E1 rfl rfl) rfl fun _ E2 => S_a E2 rfl rfl fun _ E3 => Qc (T_n (Qa (S_m E3 rfl rfl fun _ E4 => S_m E4 rfl rfl ?_))))))))
  clear E a E1 E2 E3 E4; intro a E
  refine S_x (Qy (ys := [k_12]) E S rfl T22 rfl rfl rfl ?_)
  clear E a S; rintro a w v_14 E S
  replace S := S.front2
  replace S := S.front1
  refine S_x (QH (xs := p) (ys := [k_12]) E S rfl rfl rfl T22 (by (simp; omega)) ?_)
  clear E a S; rintro a w v_15 E S
  refine S_a E rfl rfl ?_
  clear E a; intro a E
  refine Qc (B_n (T_n ?_))
  replace S := S.front1
  replace S := S.front1
  replace S := S.re1 (l' := (p ++ [k_12])) (by rfl)
  replace S := S.front1
  replace S := S.reIt (p' := (Sl.encS (p ++ [k_12]))) (congrArg Sl.encS (show p ++ [k_12] = (p ++ [k_12]) by first | rfl | (simp; done)))
  exact ⟨(p ++ [k_12]), ⟨M_6, _, hM_6, S, E.keep ⟨rfl, rfl, trivial⟩, (by exact snocN (by assumption) (by assumption)), (by exact snocS (by assumption) (by assumption)), (by simp; omega)⟩, (by simp; omega)⟩
theorem impl_Keyify {M : Hp} {v0 : Value} {l0 : List Int} (h0 : RdI M v0 l0) (hb : l0.length ≤ 1000000000000) :
  Pu Tryz.prog (.func (.func 182) #[] #[]) M [v0] (fun r M' => RdI M' r (VH (QC l0))) := by
 refine Qk Tryz.func182 rfl Tryz.ntmps182 rfl Tryz.call182 ?_
 intro a w M1 H hM1 S E
 replace h0 := h0.le hM1
 have b0 := h0.bound
 have hkl := Ue l0
 refine Qb (Qa (S_a E rfl rfl fun _ E1 => Qc (T_n (Qb (Qa (S_m E1 rfl rfl ?_))))))
 clear E a E1; intro a E
 refine S_x (Vv (p := []) E S rfl rfl rfl (ZO h0) (Hp.le.refl _) ?_)
 clear E a S; rintro a _ w M_1 _ hM_1 ⟨v_2, rfl, rfl⟩ S E
 replace S : St w M_1 (Zs v_2 (QC l0) :: _) := S
 have S0 := S; clear S
 obtain ⟨M_3, hM_3, hm_4, S⟩ := S0.freezeM
 clear S0
 refine S_x (Qr E S rfl rfl rfl (impl_keys hm_4 (by (omega))) (Hp.le.refl _) ?_)
 clear E a S; rintro a v_6 w M_5 hM_5 hv_6 S E
 refine S_a E rfl rfl ?_
 clear E a; intro a E
 refine Qc (T_n (Qe ?_))
 exact Qg E Tryz.results182 rfl ⟨_, rfl, M_5, (hM_1.trans (hM_3.trans hM_5)), hv_6, S⟩
theorem lo_Flatten {M : Hp} {v0 : Value} {l0 : List (List Int)} (h0 : Jy M v0 l0) (hb : total l0 ≤ 1000000000) :
  Pu Tryz.prog (.func (.func 264) #[] #[]) M [v0] (fun r M' => RdI M' r ((l0).flatten)) := by
 refine Qk Tryz.func264 rfl Tryz.ntmps264 rfl Tryz.call264 ?_
 intro a w M1 H hM1 S E
 replace h0 := h0.le hM1
 have b0 := h0.bound
 refine Qb (Qa (S_a E rfl rfl fun _ E1 => Qc (T_n (Qb (Qa (S_a E1 rfl rfl fun _ E2 => Qc (T_n (Qb (Qb (Qa (S_m E2 rfl rfl fun _ E3 => S_v E3 rfl (Qp E3 rfl T74 h0.len) rfl fun _ E4 => S_m E4 rfl rfl ?_)))))))))))
 clear E a E1 E2 E3 E4; intro a E
 refine Qc (T_n (Qi ?_))
 refine Qx (γ := Nat) (fun (k : Nat) a w => ∃ (M_1 : Hp), Hp.le M1 M_1 ∧ St w M_1 (H) ∧ Env a 35 [] [(0, v0), (3, .int .i64 ((total (l0.take k) : Nat) : Int)), (8, .int .i64 (((l0).length : Nat) : Int)), (9, .int .i64 ((k : Nat) : Int))] ∧ (k ≤ (l0).length)) (fun k => ((l0).length) - k) 0 ⟨M1, Hp.le.refl _, S, E.keep ⟨rfl, QM (i := 0) rfl (by (rfl)), rfl, rfl, trivial⟩, by (omega)⟩ ?_
 try clear E
 try clear S
 try clear a
 try clear w
 rintro k a w ⟨M_1, hM_1, S, E, hL0_0⟩
 replace h0 := h0.le hM_1
 have ht := QO l0 k
 refine Qb (Qa (S_v E rfl (QG E rfl rfl) rfl ?_))
 clear E a; intro a E
 refine Qc (T_n (Qb ?_))
 refine Qn E rfl (fun hc_2 => ?_) (fun hc_2 => ?_)
 ·refine Qh (T_n (Qb (Qi (Qb (Qa (S_m E rfl rfl fun _ E1 => S_a E1 rfl rfl fun _ E2 => Qc (T_n (Qa (S_m E2 rfl rfl fun _ E3 => S_m E3 rfl rfl fun _ E4 => S_m E4 rfl rfl ?_)))))))))
  clear E a E1 E2 E3 E4; intro a E
  obtain ⟨x_3, hx_3⟩ : ∃ x, (l0)[k]? = some x := ⟨_, List.getElem?_eq_getElem (by omega)⟩
  obtain ⟨p_4, u_5, hp_4, qp_4, hu_5⟩ := h0.at hx_3
  have bu_5 := hu_5.bound
  refine S_v E rfl (QB E rfl rfl T74 hp_4 rfl) rfl fun _ E1 => S_v E1 rfl (Qj E1 rfl Tryz.isAgg22 S.imm qp_4) rfl fun _ E2 => S_v E2 rfl (Qp E2 rfl T22 hu_5.len) rfl fun _ E3 => S_v E3 rfl (Qq (m := ((total (l0.take k) + (x_3).length : Nat) : Int)) E3 rfl rfl (by omega) (by omega)) rfl fun _ E4 => S_a E4 rfl rfl fun _ E5 => Qc (B_n (T_n (Qa (S_v E5 rfl (Qq (m := ((k + 1 : Nat) : Int)) E5 rfl rfl (by omega) (by omega)) rfl ?_))))
  clear E a E1 E2 E3 E4 E5; intro a E
  refine S_m E rfl rfl ?_
  clear E a; intro a E
  refine Qc (T_n ?_)
  exact ⟨k + 1, ⟨M_1, hM_1, S, E.keep ⟨rfl, QM (i := total (l0.take k) + (x_3).length) rfl (by (rw [Zi (by assumption)])), rfl, rfl, trivial⟩, by (omega)⟩, by omega⟩
 ·refine Qt (T_x (T_x (B_x (T_n (Qb (Qa (S_m E rfl rfl ?_)))))))
  clear E a; intro a E
  refine S_x (Jf (k := total (l0.take k)) E S rfl rfl rfl T22 rfl (by omega) (by (have ht := QO l0 k; omega)) (by (have ht := QO l0 k; omega)) ?_)
  clear E a S; rintro a w v_6 E S
  replace S := S.made0
  refine S_a E rfl rfl fun _ E1 => Qc (T_n (Qb (Qb (Qa (S_m E1 rfl rfl fun _ E2 => S_v E2 rfl (Qp E2 rfl T74 h0.len) rfl fun _ E3 => S_m E3 rfl rfl ?_)))))
  clear E a E1 E2 E3; intro a E
  refine Qc (T_n (Qi ?_))
  replace S := S.re1 (l' := (l0.take 0).flatten) (by rfl)
  refine Qx (γ := Nat) (fun (k : Nat) a w => ∃ (M_7 : Hp) (u5 : Value), Hp.le M_1 M_7 ∧ St w M_7 (QR 3 u5 ((l0.take k).flatten) :: H) ∧ Env a 35 [] [(0, v0), (5, u5), (23, .int .i64 (((l0).length : Nat) : Int)), (24, .int .i64 ((k : Nat) : Int))] ∧ (k ≤ (l0).length)) (fun k => ((l0).length) - k) 0 ⟨M_1, _, Hp.le.refl _, S, E.keep ⟨rfl, rfl, rfl, rfl, trivial⟩, by (omega)⟩ ?_
  try clear E
  try clear S
  try clear a
  try clear w
  rintro k a w ⟨M_7, u5, hM_7, S, E, hL1_0⟩
  replace h0 := h0.le hM_7
  have ht := QO l0 k; have hf := Zg (l0.take k)
  refine Qb (Qa (S_v E rfl (QG E rfl rfl) rfl ?_))
  clear E a; intro a E
  refine Qc (T_n (Qb ?_))
  refine Qn E rfl (fun hc_8 => ?_) (fun hc_8 => ?_)
  ·refine Qh (T_n (Qb (Qi (Qb (Qa (S_m E rfl rfl fun _ E1 => S_a E1 rfl rfl fun _ E2 => Qc (T_n (Qa (S_m E2 rfl rfl fun _ E3 => S_m E3 rfl rfl fun _ E4 => S_m E4 rfl rfl ?_)))))))))
   clear E a E1 E2 E3 E4; intro a E
   obtain ⟨x_9, hx_9⟩ : ∃ x, (l0)[k]? = some x := ⟨_, List.getElem?_eq_getElem (by omega)⟩
   obtain ⟨p_10, u_11, hp_10, qp_10, hu_11⟩ := h0.at hx_9
   have bu_11 := hu_11.bound
   refine S_v E rfl (QB E rfl rfl T74 hp_10 rfl) rfl fun _ E1 => S_v E1 rfl (Qj E1 rfl Tryz.isAgg22 S.imm qp_10) rfl ?_
   clear E a E1; intro a E
   refine S_x (QJ (xs := (l0.take k).flatten) E S rfl rfl rfl T22 hu_11 (by (have ht2 := QO l0 (k+1); rw [Zi (by assumption)] at ht2; omega)) ?_)
   clear E a S; rintro a w v_12 E S
   refine S_a E rfl rfl fun _ E1 => Qc (B_n (T_n (Qa (S_v E1 rfl (Qq (m := ((k + 1 : Nat) : Int)) E1 rfl rfl (by omega) (by omega)) rfl fun _ E2 => S_m E2 rfl rfl ?_))))
   clear E a E1 E2; intro a E
   refine Qc (T_n ?_)
   replace S := S.re1 (l' := (l0.take (k + 1)).flatten) (by (rw [Vh (by assumption)]; done))
   exact ⟨k + 1, ⟨M_7, _, hM_7, S, E.keep ⟨rfl, rfl, rfl, rfl, trivial⟩, by (omega)⟩, by omega⟩
  ·refine Qt (T_x (T_x (B_x (T_n (Qb (Qa (S_m E rfl rfl fun _ E1 => S_a E1 rfl rfl ?_)))))))
   clear E a E1; intro a E
   refine Qc (T_n (Qe ?_))
   have S0 := S; clear S
   obtain ⟨M_13, hM_13, hz_14, S⟩ := S0.freezeI (by (have ht := QO l0 k; rw [Zg]; omega))
   clear S0
   exact Qg E Tryz.results264 rfl ⟨_, rfl, M_13, (hM_1.trans (hM_7.trans hM_13)), (RdS.eqL hz_14 (by (rw [List.take_of_length_le (by omega)]))), S⟩
theorem yV {M : Hp} {v0 : Value} {l0 : List (List Int)} (h0 : Jy M v0 l0) (hb : total l0 ≤ 1000000000) :
  Pu Tryz.prog (.func (.func 183) #[] #[]) M [v0] (fun r M' => RdI M' r ((l0).flatten)) := by
 refine Qk Tryz.func183 rfl Tryz.ntmps183 rfl Tryz.call183 ?_
 intro a w M1 H hM1 S E
 replace h0 := h0.le hM1
 have b0 := h0.bound
 refine Qb (Qa (S_a E rfl rfl fun _ E1 => Qc (T_n (Qb (Qa (S_m E1 rfl rfl ?_))))))
 clear E a E1; intro a E
 refine S_x (Qr E S rfl rfl rfl (lo_Flatten h0 (by omega)) (Hp.le.refl _) ?_)
 clear E a S; rintro a v_2 w M_1 hM_1 hv_2 S E
 refine S_a E rfl rfl ?_
 clear E a; intro a E
 refine Qc (T_n (Qe ?_))
 exact Qg E Tryz.results183 rfl ⟨_, rfl, M_1, hM_1, hv_2, S⟩
theorem yF {M : Hp} {v0 : Value} {l0 : List (List Int)} (h0 : Jy M v0 l0) (hb : ∀ x ∈ l0, x.length ≤ 1000000000) :
  Pu Tryz.prog (.func (.func 265) #[] #[]) M [v0] (fun r M' => RdI M' r (WI (fun x => x) l0)) := by
 refine Qk Tryz.func265 rfl Tryz.ntmps265 rfl Tryz.call265 ?_
 intro a w M1 H hM1 S E
 replace h0 := h0.le hM1
 have b0 := h0.bound
 refine Qb (Qa (S_a E rfl rfl fun _ E1 => Qc (T_n (Qb (Qb (Qa (S_m E1 rfl rfl fun _ E2 => S_v E2 rfl (Qp E2 rfl T74 h0.len) rfl fun _ E3 => S_v E3 rfl (Qv E3 rfl rfl) rfl ?_)))))))
 clear E a E1 E2 E3; intro a E
 refine Qc (T_n ?_)
 refine Qn E rfl (fun hc_1 => ?_) (fun hc_1 => ?_)
 ·refine Qb (Qa ?_)
  refine S_x (Qy (ys := []) E S rfl T22 rfl rfl rfl ?_)
  clear E a S; rintro a w v_2 E S
  refine S_a E rfl rfl ?_
  clear E a; intro a E
  refine Qc (T_n (Qe ?_))
  refine T_r ?_
  have S0 := S; clear S
  obtain ⟨M_3, hM_3, hz_4, S⟩ := S0.freezeI (by ((simp; done)))
  clear S0
  replace h0 := h0.le hM_3
  exact Qg E Tryz.results265 rfl ⟨_, rfl, M_3, hM_3, (RdS.eqL hz_4 (by (have e := List.eq_nil_of_length_eq_zero (l := l0) (by omega); subst e; rfl))), S⟩
 ·refine Qh (T_n (Qb (Qa (S_m E rfl rfl fun _ E1 => S_m E1 rfl rfl fun _ E2 => S_v E2 rfl (Qp E2 rfl T74 h0.len) rfl fun _ E3 => S_v E3 rfl (Jg (m := (((l0).length - 1 : Nat) : Int)) E3 rfl rfl (by omega) (by omega)) rfl ?_))))
  clear E a E1 E2 E3; intro a E
  obtain ⟨x_5, hx_5⟩ : ∃ x, (l0)[(l0).length - 1]? = some x := ⟨_, List.getElem?_eq_getElem (by omega)⟩
  obtain ⟨p_6, u_7, hp_6, qp_6, hu_7⟩ := h0.at hx_5
  have bu_7 := hu_7.bound
  refine S_v E rfl (QB E rfl rfl T74 hp_6 rfl) rfl fun _ E1 => S_v E1 rfl (Qj E1 rfl Tryz.isAgg22 S.imm qp_6) rfl fun _ E2 => S_a E2 rfl rfl fun _ E3 => Qc (T_n (Qb (Qa (S_m E3 rfl rfl fun _ E4 => S_v E4 rfl (Qp E4 rfl T22 hu_7.len) rfl ?_))))
  clear E a E1 E2 E3 E4; intro a E
  refine S_x (ZB E S rfl JU rfl ?_)
  clear E a S; rintro a w b_8 E S
  replace S : St w M1 (Zw Value.bool b_8 ([] : List (Int × Bool)) :: _) := S
  refine S_a E rfl rfl fun _ E1 => Qc (T_n (Qb (Qb (Qa (S_m E1 rfl rfl fun _ E2 => S_v E2 rfl (Qp E2 rfl T22 hu_7.len) rfl fun _ E3 => S_m E3 rfl rfl ?_)))))
  clear E a E1 E2 E3; intro a E
  refine Qc (T_n (Qi ?_))
  replace S := S.reM (L' := (QY Value.bool (QX (QC (((l0.getD (l0.length - 1) []).take 0).map (fun x => x))) (fun _ => false)))) (congrArg (QY Value.bool) (show ([] : List (Int × Bool)) = QX (QC (((l0.getD (l0.length - 1) []).take 0).map (fun x => x))) (fun _ => false) by first | (unfold QX; simp [QC]; done) | exact ad_new (fun x => x) (by assumption) (QV (n := l0.length - 1) (by assumption) (by omega))))
  refine Qx (γ := Nat) (fun (k : Nat) a w => ∃ (M_9 : Hp), Hp.le M1 M_9 ∧ St w M_9 (Zw Value.bool b_8 (QX (QC (((l0.getD (l0.length - 1) []).take k).map (fun x => x))) (fun _ => false)) :: H) ∧ Env a 110 [] [(0, v0), (4, .map (some b_8)), (32, u_7), (33, .int .i64 (((x_5).length : Nat) : Int)), (34, .int .i64 ((k : Nat) : Int))] ∧ (k ≤ (x_5).length)) (fun k => ((x_5).length) - k) 0 ⟨M1, Hp.le.refl _, S, E.keep ⟨rfl, rfl, rfl, rfl, rfl, trivial⟩, by (omega)⟩ ?_
  try clear E
  try clear S
  try clear a
  try clear w
  rintro k a w ⟨M_9, hM_9, S, E, hL0_0⟩
  replace h0 := h0.le hM_9
  replace hu_7 := hu_7.le hM_9
  refine Qb (Qa (S_v E rfl (QG E rfl rfl) rfl ?_))
  clear E a; intro a E
  refine Qc (T_n (Qb ?_))
  refine Qn E rfl (fun hc_10 => ?_) (fun hc_10 => ?_)
  ·refine Qh (T_n (Qb (Qi (Qb (Qa ?_)))))
   obtain ⟨x_11, hx_11⟩ : ∃ x, (x_5)[k]? = some x := ⟨_, List.getElem?_eq_getElem (by omega)⟩
   obtain ⟨p_12, hp_12, qp_12⟩ := hu_7.at hx_11
   refine S_v E rfl (QB E rfl rfl T22 hp_12 rfl) rfl fun _ E1 => S_v E1 rfl (Qj E1 rfl Tryz.isAgg3 S.imm qp_12) rfl fun _ E2 => S_a E2 rfl rfl fun _ E3 => Qc (T_n (Qa (S_m E3 rfl rfl fun _ E4 => S_m E4 rfl rfl ?_)))
   clear E a E1 E2 E3 E4; intro a E
   refine Zr (ZT (vf := Value.bool) (u := false) E S JU rfl rfl rfl ?_)
   clear E a S; rintro a w E S
   refine Qc (B_n (T_n (Qa (S_v E rfl (Qq (m := ((k + 1 : Nat) : Int)) E rfl rfl (by omega) (by omega)) rfl fun _ E1 => S_m E1 rfl rfl ?_))))
   clear E a E1; intro a E
   refine Qc (T_n ?_)
   replace S := S.reM (L' := (QY Value.bool (QX (QC (((l0.getD (l0.length - 1) []).take (k + 1)).map (fun x => x))) (fun _ => false)))) (congrArg (QY Value.bool) (show JB (QX (QC (((l0.getD (l0.length - 1) []).take k).map (fun x => x))) (fun _ => false)) x_11 false = QX (QC (((l0.getD (l0.length - 1) []).take (k + 1)).map (fun x => x))) (fun _ => false) by first | (unfold QX; simp [QC]; done) | exact ad_new (fun x => x) (by assumption) (QV (n := l0.length - 1) (by assumption) (by omega))))
   exact ⟨k + 1, ⟨M_9, hM_9, S, E.keep ⟨rfl, rfl, rfl, rfl, rfl, trivial⟩, by (omega)⟩, by omega⟩
  ·refine Qt (T_x (T_x (B_x (T_n (Qb (Qb (Qa (S_m E rfl rfl fun _ E1 => S_v E1 rfl (Qp E1 rfl T74 h0.len) rfl fun _ E2 => S_v E2 rfl (Jg (m := (((l0).length : Nat) : Int) - 2) E2 rfl rfl (by omega) (by omega)) rfl fun _ E3 => S_a E3 rfl rfl ?_))))))))
   clear E a E1 E2 E3; intro a E
   refine Qc (T_n (Qi ?_))
   replace S := S.reM (L' := (QY Value.bool (QX (sjI (fun x => x) l0 0) (fun _ => false)))) (congrArg (QY Value.bool) (show QX (QC (((l0.getD (l0.length - 1) []).take k).map (fun x => x))) (fun _ => false) = QX (sjI (fun x => x) l0 0) (fun _ => false) by first | (rw [(QV (n := l0.length - 1) (by assumption) (by omega)), List.take_of_length_le (by omega)]; show _ = QX (QC _) _; rw [(QV (n := l0.length - 1) (by assumption) (by omega))]; done) | (rw [sd_end (by assumption)]; rfl)))
   refine Qx (γ := Nat) (fun (j : Nat) a w => ∃ (M_13 : Hp), Hp.le M_9 M_13 ∧ St w M_13 (Zw Value.bool b_8 (QX (sjI (fun x => x) l0 j) (fun _ => false)) :: H) ∧ Env a 110 [] [(0, v0), (4, .map (some b_8)), (7, .int .i64 ((l0.length : Int) - 2 - (j : Int)))] ∧ (j ≤ l0.length - 2)) (fun j => l0.length - j) 0 ⟨M_9, Hp.le.refl _, S, E.keep ⟨rfl, rfl, Za (i := (((l0).length : Nat) : Int) - 2) rfl (by (omega)), trivial⟩, (by omega)⟩ ?_
   try clear E
   try clear S
   try clear a
   try clear w
   rintro j a w ⟨M_13, hM_13, S, E, hL1_0⟩
   replace h0 := h0.le hM_13
   refine Qb (Qb (Qa (S_m E rfl rfl fun _ E1 => S_v E1 rfl (JT E1 rfl rfl) rfl fun _ E2 => S_m E2 rfl rfl ?_)))
   clear E a E1 E2; intro a E
   refine QK (decide (0 < (l0.length : Int) - 2 - (j : Int))) (fun hc_14 => ?_) (fun hc_14 => ?_)
   ·replace E := E.val (t := 45) rfl hc_14
    replace E := E.val (t := 46) rfl hc_14
    replace hc_14 := of_decide_eq_true hc_14
    refine Qf E rfl rfl ?_
    refine S_m E rfl rfl ?_
    clear E a; intro a E
    refine Qf E rfl rfl ?_
    refine S_v E rfl ((jd E S JU rfl).trans (by rw [Wd])) rfl ?_
    clear E a; intro a E
    refine Qf E rfl rfl ?_
    refine S_v E rfl (Yv E rfl rfl) rfl fun _ E1 => S_v E1 rfl (QZ E1 rfl rfl) rfl ?_
    clear E a E1; intro a E
    refine Qc (T_n ?_)
    refine Qn E rfl (fun hc_15 => ?_) (fun hc_15 => ?_)
    ·refine Qh (T_n (Qb (Qi (Qb (Qb (Qa (S_m E rfl rfl fun _ E1 => S_m E1 rfl rfl ?_)))))))
     clear E a E1; intro a E
     obtain ⟨x_16, hx_16⟩ : ∃ x, (l0)[((l0.length : Int) - 2 - (j : Int)).toNat]? = some x := ⟨_, List.getElem?_eq_getElem (by omega)⟩
     obtain ⟨p_17, u_18, hp_17, qp_17, hu_18⟩ := h0.at hx_16
     have bu_18 := hu_18.bound
     refine S_v E rfl (QB E rfl rfl T74 hp_17 (by omega)) rfl fun _ E1 => S_v E1 rfl (Qj E1 rfl Tryz.isAgg22 S.imm qp_17) rfl fun _ E2 => S_v E2 rfl (Qp E2 rfl T22 hu_18.len) rfl fun _ E3 => S_m E3 rfl rfl ?_
     clear E a E1 E2 E3; intro a E
     refine Qc (T_n (Qi ?_))
     replace S := S.reM (L' := (QY Value.bool (QX (sjI (fun x => x) l0 j) (mkd (((l0.getD (l0.length - 2 - j) []).take 0).map (fun x => x)))))) (congrArg (QY Value.bool) (show QX (sjI (fun x => x) l0 j) (fun _ => false) = QX (sjI (fun x => x) l0 j) (mkd (((l0.getD (l0.length - 2 - j) []).take 0).map (fun x => x))) by first | (rw [List.take_zero, List.map_nil, zx]; done) | (refine at_yes (fun x => x) (Vp _ _ _) (by assumption) (QV (n := l0.length - 2 - j) (by assumption) (by omega)) ?_; assumption) | (refine at_no (fun x => x) (by assumption) (QV (n := l0.length - 2 - j) (by assumption) (by omega)) ?_; assumption)))
     refine Qx (γ := Nat) (fun (m : Nat) a w => ∃ (M_19 : Hp), Hp.le M_13 M_19 ∧ St w M_19 (Zw Value.bool b_8 (QX (sjI (fun x => x) l0 j) (mkd (((l0.getD (l0.length - 2 - j) []).take m).map (fun x => x)))) :: H) ∧ Env a 110 [] [(0, v0), (4, .map (some b_8)), (7, .int .i64 ((l0.length : Int) - 2 - (j : Int))), (56, u_18), (57, .int .i64 (((x_16).length : Nat) : Int)), (58, .int .i64 ((m : Nat) : Int))] ∧ (m ≤ (x_16).length)) (fun m => ((x_16).length) - m) 0 ⟨M_13, Hp.le.refl _, S, E.keep ⟨rfl, rfl, rfl, rfl, rfl, rfl, trivial⟩, by (omega)⟩ ?_
     try clear E
     try clear S
     try clear a
     try clear w
     rintro m a w ⟨M_19, hM_19, S, E, hL2_0⟩
     replace h0 := h0.le hM_19
     replace hu_18 := hu_18.le hM_19
     refine Qb (Qa (S_v E rfl (QG E rfl rfl) rfl ?_))
     clear E a; intro a E
     refine Qc (T_n (Qb ?_))
     refine Qn E rfl (fun hc_20 => ?_) (fun hc_20 => ?_)
     ·refine Qh (T_n (Qb (Qi (Qb (Qa ?_)))))
      obtain ⟨x_21, hx_21⟩ : ∃ x, (x_16)[m]? = some x := ⟨_, List.getElem?_eq_getElem (by omega)⟩
      obtain ⟨p_22, hp_22, qp_22⟩ := hu_18.at hx_21
      refine S_v E rfl (QB E rfl rfl T22 hp_22 rfl) rfl fun _ E1 => S_v E1 rfl (Qj E1 rfl Tryz.isAgg3 S.imm qp_22) rfl fun _ E2 => S_a E2 rfl rfl fun _ E3 => Qc (T_n (Qb (Qa (S_m E3 rfl rfl fun _ E4 => S_m E4 rfl rfl ?_))))
      clear E a E1 E2 E3 E4; intro a E
      refine S_x (Yo (vf := Value.bool) (zb := false) E S rfl JU rfl rfl ?_)
      clear E a S; rintro a w E S
      replace S : St w M_19 (Zw Value.bool b_8 (QX (sjI (fun x => x) l0 j) (mkd (((l0.getD (l0.length - 2 - j) []).take m).map (fun x => x)))) :: _) := S
      refine S_m E rfl rfl fun _ E1 => S_v E1 rfl (Qm E1 rfl rfl) rfl fun _ E2 => S_v E2 rfl (Qm E2 rfl rfl) rfl fun _ E3 => S_a E3 rfl rfl fun _ E4 => S_a E4 rfl rfl fun _ E5 => Qc (T_n (Qb (Qa (S_m E5 rfl rfl ?_))))
      clear E a E1 E2 E3 E4 E5; intro a E
      refine Qc (T_n ?_)
      refine QL E rfl (fun hc_23 => ?_) (fun hc_23 => ?_)
      ·refine Qa ?_
       refine S_m E rfl rfl fun _ E1 => S_m E1 rfl rfl ?_
       clear E a E1; intro a E
       refine Zr (ZT (vf := Value.bool) (u := true) E S JU rfl rfl rfl ?_)
       clear E a S; rintro a w E S
       refine Qc (B_n (T_n (Qa (S_v E rfl (Qq (m := ((m + 1 : Nat) : Int)) E rfl rfl (by omega) (by omega)) rfl fun _ E1 => S_m E1 rfl rfl ?_))))
       clear E a E1; intro a E
       refine Qc (T_n ?_)
       replace S := S.reM (L' := (QY Value.bool (QX (sjI (fun x => x) l0 j) (mkd (((l0.getD (l0.length - 2 - j) []).take (m + 1)).map (fun x => x)))))) (congrArg (QY Value.bool) (show JB (QX (sjI (fun x => x) l0 j) (mkd (((l0.getD (l0.length - 2 - j) []).take m).map (fun x => x)))) x_21 true = QX (sjI (fun x => x) l0 j) (mkd (((l0.getD (l0.length - 2 - j) []).take (m + 1)).map (fun x => x))) by first | (rw [List.take_zero, List.map_nil, zx]; done) | (refine at_yes (fun x => x) (Vp _ _ _) (by assumption) (QV (n := l0.length - 2 - j) (by assumption) (by omega)) ?_; assumption) | (refine at_no (fun x => x) (by assumption) (QV (n := l0.length - 2 - j) (by assumption) (by omega)) ?_; assumption)))
       exact ⟨m + 1, ⟨M_19, hM_19, S, E.keep ⟨rfl, rfl, rfl, rfl, rfl, rfl, trivial⟩, by (omega)⟩, by omega⟩
      ·refine Qh ?_
       refine B_n (T_n (Qa (S_v E rfl (Qq (m := ((m + 1 : Nat) : Int)) E rfl rfl (by omega) (by omega)) rfl fun _ E1 => S_m E1 rfl rfl ?_)))
       clear E a E1; intro a E
       refine Qc (T_n ?_)
       replace S := S.reM (L' := (QY Value.bool (QX (sjI (fun x => x) l0 j) (mkd (((l0.getD (l0.length - 2 - j) []).take (m + 1)).map (fun x => x)))))) (congrArg (QY Value.bool) (show QX (sjI (fun x => x) l0 j) (mkd (((l0.getD (l0.length - 2 - j) []).take m).map (fun x => x))) = QX (sjI (fun x => x) l0 j) (mkd (((l0.getD (l0.length - 2 - j) []).take (m + 1)).map (fun x => x))) by first | (rw [List.take_zero, List.map_nil, zx]; done) | (refine at_yes (fun x => x) (Vp _ _ _) (by assumption) (QV (n := l0.length - 2 - j) (by assumption) (by omega)) ?_; assumption) | (refine at_no (fun x => x) (by assumption) (QV (n := l0.length - 2 - j) (by assumption) (by omega)) ?_; assumption)))
       exact ⟨m + 1, ⟨M_19, hM_19, S, E.keep ⟨rfl, rfl, rfl, rfl, rfl, rfl, trivial⟩, by (omega)⟩, by omega⟩
     ·refine Qt (T_x (T_x (B_x (T_n (Qb (Qa (S_m E rfl rfl ?_)))))))
      clear E a; intro a E
      refine S_x (X_rangeW E S rfl JU rfl ?_)
      clear E a S; rintro a w i_24 E S
      replace S : St w M_19 (ItW b_8 i_24 (QY Value.bool (QX (sjI (fun x => x) l0 j) (mkd (((l0.getD (l0.length - 2 - j) []).take m).map (fun x => x))))) ([] : List Int) none :: _) := S
      refine Qc (T_n (Qi ?_))
      replace S := S.reW (L' := (QY Value.bool (JX (sjI (fun x => x) l0 j) (mkd ((l0.getD (l0.length - 2 - j) []).map (fun x => x))) []))) (D' := []) (congrArg (QY Value.bool) (show QX (sjI (fun x => x) l0 j) (mkd (((l0.getD (l0.length - 2 - j) []).take m).map (fun x => x))) = JX (sjI (fun x => x) l0 j) (mkd ((l0.getD (l0.length - 2 - j) []).map (fun x => x))) [] by first | (rw [(QV (n := l0.length - 2 - j) (by assumption) (by omega)), List.take_of_length_le (by omega), zl]; done) | (refine sd_yes (Vp _ _ _) (by assumption) (by assumption) ?_; first | rfl | assumption) | (refine sd_nof (by assumption) (by assumption) ?_; first | rfl | assumption))) (show ([] : List Int) = [] by first | rfl | (simp; done))
      refine Qx (γ := List Int) (fun (dd : List Int) a w => ∃ (M_25 : Hp), Hp.le M_19 M_25 ∧ St w M_25 (ItW b_8 i_24 (QY Value.bool (JX (sjI (fun x => x) l0 j) (mkd ((l0.getD (l0.length - 2 - j) []).map (fun x => x))) dd)) dd none :: H) ∧ Env a 110 [] [(0, v0), (4, .map (some b_8)), (7, .int .i64 ((l0.length : Int) - 2 - (j : Int))), (73, .pointer (some ⟨i_24, 0, none⟩))] ∧ (dd.Nodup) ∧ (∀ z ∈ dd, z ∈ sjI (fun x => x) l0 j)) (fun dd => (sjI (fun x => x) l0 j).length - dd.length) [] ⟨M_19, Hp.le.refl _, S, E.keep ⟨rfl, rfl, rfl, rfl, trivial⟩, (by simp), (by simp)⟩ ?_
      try clear E
      try clear S
      try clear a
      try clear w
      rintro dd a w ⟨M_25, hM_25, S, E, hL3_0, hL3_1⟩
      replace h0 := h0.le hM_25
      refine Qb (Qa ?_)
      refine S_x (X_nextWE (vf := Value.bool) E S rfl rfl ?_ ?_)
      ·clear E a S; rintro a E hpm_26 S
       refine S_v E rfl (Qm E rfl rfl) rfl ?_
       clear E a; intro a E
       refine Qc (T_n (Qb ?_))
       refine Ja E rfl rfl ?_
       refine Qt (T_x (T_x (B_x (B_n (T_n (Qa (S_m E rfl rfl fun _ E1 => S_v E1 rfl (Jg (m := ((l0.length : Int) - 2 - (j : Int)) - 1) E1 rfl rfl (by omega) (by omega)) rfl fun _ E2 => S_a E2 rfl rfl ?_)))))))
       clear E a E1 E2; intro a E
       refine Qc (T_n ?_)
       replace S := S.reM (L' := (QY Value.bool (QX (sjI (fun x => x) l0 (j + 1)) (fun _ => false)))) (congrArg (QY Value.bool) (show JX (sjI (fun x => x) l0 j) (mkd ((l0.getD (l0.length - 2 - j) []).map (fun x => x))) dd = QX (sjI (fun x => x) l0 (j + 1)) (fun _ => false) by first | (rw [(QV (n := l0.length - 1) (by assumption) (by omega)), List.take_of_length_le (by omega)]; show _ = QX (QC _) _; rw [(QV (n := l0.length - 1) (by assumption) (by omega))]; done) | (rw [sd_end (by assumption)]; rfl)))
       exact ⟨j + 1, ⟨M_25, (hM_13.trans (hM_19.trans hM_25)), S, E.keep ⟨rfl, rfl, Za (i := ((l0.length : Int) - 2 - (j : Int)) - 1) rfl (by (omega)), trivial⟩, (by omega)⟩, by omega⟩
      ·clear E a S w; rintro a w k_27 u_29 E hk_28 hk_28n S
       refine S_v E rfl (Qm E rfl rfl) rfl ?_
       clear E a; intro a E
       refine Qc (T_n (Qb ?_))
       refine ZK E rfl rfl ?_
       refine Qh (T_n (Qi (Qb (Qa (S_v E rfl (R_entryW E S rfl) rfl fun _ E1 => S_v E1 rfl (Qm E1 rfl rfl) rfl fun _ E2 => S_v E2 rfl (Qm E2 rfl rfl) rfl fun _ E3 => S_a E3 rfl rfl fun _ E4 => S_a E4 rfl rfl fun _ E5 => Qc (T_n (Qb (Qa (S_m E5 rfl rfl ?_)))))))))
       clear E a E1 E2 E3 E4 E5; intro a E
       refine Qc (T_n ?_)
       refine QL E rfl (fun hc_30 => ?_) (fun hc_30 => ?_)
       ·refine Qa ?_
        refine S_m E rfl rfl fun _ E1 => S_m E1 rfl rfl ?_
        clear E a E1; intro a E
        refine Zr (X_updateWE (vf := Value.bool) (u := false) E S JU rfl rfl rfl (by exact List.mem_map_of_mem (f := Prod.fst) (by assumption)) ?_)
        clear E a S; rintro a w E S
        refine Qc (B_n (T_n ?_))
        replace S := S.reW (L' := (QY Value.bool (JX (sjI (fun x => x) l0 j) (mkd ((l0.getD (l0.length - 2 - j) []).map (fun x => x))) (dd ++ [k_27])))) (D' := (dd ++ [k_27])) (congrArg (QY Value.bool) (show JB (JX (sjI (fun x => x) l0 j) (mkd ((l0.getD (l0.length - 2 - j) []).map (fun x => x))) dd) k_27 false = JX (sjI (fun x => x) l0 j) (mkd ((l0.getD (l0.length - 2 - j) []).map (fun x => x))) (dd ++ [k_27]) by first | (rw [(QV (n := l0.length - 2 - j) (by assumption) (by omega)), List.take_of_length_le (by omega), zl]; done) | (refine sd_yes (Vp _ _ _) (by assumption) (by assumption) ?_; first | rfl | assumption) | (refine sd_nof (by assumption) (by assumption) ?_; first | rfl | assumption))) (show dd ++ [k_27] = (dd ++ [k_27]) by first | rfl | (simp; done))
        exact ⟨(dd ++ [k_27]), ⟨M_25, hM_25, S, E.keep ⟨rfl, rfl, rfl, rfl, trivial⟩, (by exact qZ (by assumption) (by assumption)), (by exact vq (by assumption) (by assumption) (by assumption))⟩, (by have hlt := told_lt (by assumption) (by assumption) (by assumption) (by assumption); simp; omega)⟩
       ·refine Qa ?_
        refine S_m E rfl rfl fun _ E1 => S_m E1 rfl rfl ?_
        clear E a E1; intro a E
        refine Zr (X_delete0WE (vf := Value.bool) E S JU rfl rfl ?_)
        clear E a S; rintro a w E S
        refine Qc (B_n (T_n ?_))
        replace S := S.reW (L' := (QY Value.bool (JX (sjI (fun x => x) l0 j) (mkd ((l0.getD (l0.length - 2 - j) []).map (fun x => x))) (dd ++ [k_27])))) (D' := (dd ++ [k_27])) (congrArg (QY Value.bool) (show Ym (JX (sjI (fun x => x) l0 j) (mkd ((l0.getD (l0.length - 2 - j) []).map (fun x => x))) dd) k_27 = JX (sjI (fun x => x) l0 j) (mkd ((l0.getD (l0.length - 2 - j) []).map (fun x => x))) (dd ++ [k_27]) by first | (rw [(QV (n := l0.length - 2 - j) (by assumption) (by omega)), List.take_of_length_le (by omega), zl]; done) | (refine sd_yes (Vp _ _ _) (by assumption) (by assumption) ?_; first | rfl | assumption) | (refine sd_nof (by assumption) (by assumption) ?_; first | rfl | assumption))) (show dd ++ [k_27] = (dd ++ [k_27]) by first | rfl | (simp; done))
        exact ⟨(dd ++ [k_27]), ⟨M_25, hM_25, S, E.keep ⟨rfl, rfl, rfl, rfl, trivial⟩, (by exact qZ (by assumption) (by assumption)), (by exact vq (by assumption) (by assumption) (by assumption))⟩, (by have hlt := told_lt (by assumption) (by assumption) (by assumption) (by assumption); simp; omega)⟩
    ·refine Qt (T_x (T_x (B_x (T_n (Qb (Qa (S_m E rfl rfl fun _ E1 => S_v E1 rfl ((jd E1 S JU rfl).trans (by rw [Wd])) rfl ?_)))))))
     clear E a E1; intro a E
     refine S_x (Jf (k := (QX (sjI (fun x => x) l0 j) (fun _ => false)).length) E S rfl rfl rfl T22 rfl (by omega) (by (have h9 := zj (fun x => x) l0 j; have h8 := ZA l0 (l0.length - 1) _ hb; simp only [zV]; omega)) (by (have h9 := zj (fun x => x) l0 j; have h8 := ZA l0 (l0.length - 1) _ hb; simp only [zV]; omega)) ?_)
     clear E a S; rintro a w v_31 E S
     replace S := S.made0
     refine S_a E rfl rfl fun _ E1 => Qc (T_n (Qb (Qb (Qa (S_m E1 rfl rfl ?_)))))
     clear E a E1; intro a E
     obtain ⟨x_32, hx_32⟩ : ∃ x, (l0)[0]? = some x := ⟨_, List.getElem?_eq_getElem (by omega)⟩
     obtain ⟨p_33, u_34, hp_33, qp_33, hu_34⟩ := h0.at hx_32
     have bu_34 := hu_34.bound
     refine S_v E rfl (QB E rfl rfl T74 hp_33 (by omega)) rfl fun _ E1 => S_v E1 rfl (Qj E1 rfl Tryz.isAgg22 S.imm qp_33) rfl fun _ E2 => S_v E2 rfl (Qp E2 rfl T22 hu_34.len) rfl fun _ E3 => S_m E3 rfl rfl ?_
     clear E a E1 E2 E3; intro a E
     refine Qc (T_n (Qi ?_))
     replace S := S.front1
     replace S := S.front1
     replace S := S.re1 (l' := ZI (fun x => x) (sjI (fun x => x) l0 j) ((l0.getD 0 []).take 0)) (by rfl)
     replace S := S.front1
     replace S := S.reM (L' := (QY Value.bool (QX (JV (fun x => x) (sjI (fun x => x) l0 j) ((l0.getD 0 []).take 0)) (fun _ => false)))) (congrArg (QY Value.bool) (show QX (sjI (fun x => x) l0 j) (fun _ => false) = QX (JV (fun x => x) (sjI (fun x => x) l0 j) ((l0.getD 0 []).take 0)) (fun _ => false) by first | rfl | (rw [List.take_zero]; exact VV _ _) | exact GH (fun x => x) (by assumption) (QV (n := 0) (by assumption) rfl) | (refine jO (fun x => x) (by assumption) (QV (n := 0) (by assumption) rfl) ?_; assumption) | (refine UY (fun x => x) (by assumption) (QV (n := 0) (by assumption) rfl) ?_; assumption) | (refine ql (fun x => x) (by assumption) (QV (n := 0) (by assumption) rfl) ?_; assumption)))
     refine Qx (γ := Nat) (fun (i : Nat) a w => ∃ (M_35 : Hp) (u14 : Value), Hp.le M_13 M_35 ∧ St w M_35 (Zw Value.bool b_8 (QX (JV (fun x => x) (sjI (fun x => x) l0 j) ((l0.getD 0 []).take i)) (fun _ => false)) :: QR 3 u14 (ZI (fun x => x) (sjI (fun x => x) l0 j) ((l0.getD 0 []).take i)) :: H) ∧ Env a 110 [] [(4, .map (some b_8)), (14, u14), (89, u_34), (90, .int .i64 (((x_32).length : Nat) : Int)), (91, .int .i64 ((i : Nat) : Int))] ∧ (i ≤ (l0.getD 0 []).length)) (fun i => (l0.getD 0 []).length - i) 0 ⟨M_13, _, Hp.le.refl _, S, E.keep ⟨rfl, rfl, rfl, rfl, rfl, trivial⟩, (by omega)⟩ ?_
     try clear E
     try clear S
     try clear a
     try clear w
     rintro i a w ⟨M_35, u14, hM_35, S, E, hL4_0⟩
     replace h0 := h0.le hM_35
     replace hu_34 := hu_34.le hM_35
     refine Qb (Qa (S_v E rfl (QG E rfl rfl) rfl ?_))
     clear E a; intro a E
     refine Qc (T_n (Qb ?_))
     refine Qn E rfl (fun hc_36 => ?_) (fun hc_36 => ?_)
     ·refine Qh (T_n (Qb (Qi (Qb (Qa ?_)))))
      obtain ⟨x_37, hx_37⟩ : ∃ x, (x_32)[i]? = some x := ⟨_, List.getElem?_eq_getElem (by omega)⟩
      obtain ⟨p_38, hp_38, qp_38⟩ := hu_34.at hx_37
      refine S_v E rfl (QB E rfl rfl T22 hp_38 rfl) rfl fun _ E1 => S_v E1 rfl (Qj E1 rfl Tryz.isAgg3 S.imm qp_38) rfl fun _ E2 => S_a E2 rfl rfl fun _ E3 => Qc (T_n (Qb (Qa (S_m E3 rfl rfl fun _ E4 => S_m E4 rfl rfl ?_))))
      clear E a E1 E2 E3 E4; intro a E
      refine S_x (Yo (vf := Value.bool) (zb := false) E S rfl JU rfl rfl ?_)
      clear E a S; rintro a w E S
      replace S : St w M_35 (Zw Value.bool b_8 (QX (JV (fun x => x) (sjI (fun x => x) l0 j) ((l0.getD 0 []).take i)) (fun _ => false)) :: _) := S
      refine S_m E rfl rfl fun _ E1 => S_v E1 rfl (Qm E1 rfl rfl) rfl fun _ E2 => S_v E2 rfl (Qm E2 rfl rfl) rfl fun _ E3 => S_a E3 rfl rfl fun _ E4 => S_a E4 rfl rfl fun _ E5 => Qc (T_n (Qb (Qa (S_m E5 rfl rfl ?_))))
      clear E a E1 E2 E3 E4 E5; intro a E
      refine Qc (T_n ?_)
      refine QL E rfl (fun hc_39 => ?_) (fun hc_39 => ?_)
      ·refine Qb ?_
       refine Qa (S_m E rfl rfl fun _ E1 => S_m E1 rfl rfl ?_)
       clear E a E1; intro a E
       refine S_x (Qy (ys := [x_37]) E S rfl T22 rfl rfl rfl ?_)
       clear E a S; rintro a w v_40 E S
       replace S := S.front2
       replace S := S.front1
       refine S_x (QH (xs := ZI (fun x => x) (sjI (fun x => x) l0 j) ((l0.getD 0 []).take i)) (ys := [x_37]) E S rfl rfl rfl T22 (by (have h9 := Up (fun x => x) ((l0.getD 0 []).take i) (sjI (fun x => x) l0 j); have h8 := ZA l0 0 _ hb; simp only [List.length_take] at h9; simp only [List.length_cons, List.length_nil]; omega)) ?_)
       clear E a S; rintro a w v_41 E S
       refine S_a E rfl rfl fun _ E1 => Qc (T_n (Qa (S_m E1 rfl rfl fun _ E2 => S_m E2 rfl rfl ?_)))
       clear E a E1 E2; intro a E
       replace S := S.front1
       refine Zr (ja (vf := Value.bool) E S JU rfl rfl ?_)
       clear E a S; rintro a w E S
       refine Qc (B_n (T_n (Qa (S_v E rfl (Qq (m := ((i + 1 : Nat) : Int)) E rfl rfl (by omega) (by omega)) rfl fun _ E1 => S_m E1 rfl rfl ?_))))
       clear E a E1; intro a E
       refine Qc (T_n ?_)
       replace S := S.front1
       replace S := S.re1 (l' := ZI (fun x => x) (sjI (fun x => x) l0 j) ((l0.getD 0 []).take (i + 1))) (by (refine UY (fun x => x) (by assumption) (QV (n := 0) (by assumption) rfl) ?_; assumption))
       replace S := S.front1
       replace S := S.reM (L' := (QY Value.bool (QX (JV (fun x => x) (sjI (fun x => x) l0 j) ((l0.getD 0 []).take (i + 1))) (fun _ => false)))) (congrArg (QY Value.bool) (show Ym (QX (JV (fun x => x) (sjI (fun x => x) l0 j) ((l0.getD 0 []).take i)) (fun _ => false)) x_37 = QX (JV (fun x => x) (sjI (fun x => x) l0 j) ((l0.getD 0 []).take (i + 1))) (fun _ => false) by first | rfl | (rw [List.take_zero]; exact VV _ _) | exact GH (fun x => x) (by assumption) (QV (n := 0) (by assumption) rfl) | (refine jO (fun x => x) (by assumption) (QV (n := 0) (by assumption) rfl) ?_; assumption) | (refine UY (fun x => x) (by assumption) (QV (n := 0) (by assumption) rfl) ?_; assumption) | (refine ql (fun x => x) (by assumption) (QV (n := 0) (by assumption) rfl) ?_; assumption)))
       exact ⟨i + 1, ⟨M_35, _, hM_35, S, E.keep ⟨rfl, rfl, rfl, rfl, rfl, trivial⟩, (by rw [(QV (n := 0) (by assumption) rfl)]; omega)⟩, (by rw [(QV (n := 0) (by assumption) rfl)]; omega)⟩
      ·refine Qh ?_
       refine B_n (T_n (Qa (S_v E rfl (Qq (m := ((i + 1 : Nat) : Int)) E rfl rfl (by omega) (by omega)) rfl fun _ E1 => S_m E1 rfl rfl ?_)))
       clear E a E1; intro a E
       refine Qc (T_n ?_)
       replace S := S.front1
       replace S := S.re1 (l' := ZI (fun x => x) (sjI (fun x => x) l0 j) ((l0.getD 0 []).take (i + 1))) (by (refine ql (fun x => x) (by assumption) (QV (n := 0) (by assumption) rfl) ?_; assumption))
       replace S := S.front1
       replace S := S.reM (L' := (QY Value.bool (QX (JV (fun x => x) (sjI (fun x => x) l0 j) ((l0.getD 0 []).take (i + 1))) (fun _ => false)))) (congrArg (QY Value.bool) (show QX (JV (fun x => x) (sjI (fun x => x) l0 j) ((l0.getD 0 []).take i)) (fun _ => false) = QX (JV (fun x => x) (sjI (fun x => x) l0 j) ((l0.getD 0 []).take (i + 1))) (fun _ => false) by first | rfl | (rw [List.take_zero]; exact VV _ _) | exact GH (fun x => x) (by assumption) (QV (n := 0) (by assumption) rfl) | (refine jO (fun x => x) (by assumption) (QV (n := 0) (by assumption) rfl) ?_; assumption) | (refine UY (fun x => x) (by assumption) (QV (n := 0) (by assumption) rfl) ?_; assumption) | (refine ql (fun x => x) (by assumption) (QV (n := 0) (by assumption) rfl) ?_; assumption)))
       exact ⟨i + 1, ⟨M_35, _, hM_35, S, E.keep ⟨rfl, rfl, rfl, rfl, rfl, trivial⟩, (by rw [(QV (n := 0) (by assumption) rfl)]; omega)⟩, (by rw [(QV (n := 0) (by assumption) rfl)]; omega)⟩
     ·refine Qt (T_x (T_x (B_x (T_n (Qb (Qa (S_m E rfl rfl fun _ E1 => S_a E1 rfl rfl ?_)))))))
      clear E a E1; intro a E
      refine Qc (T_n (Qe ?_))
      replace S := S.front1
      have S0 := S; clear S
      obtain ⟨M_42, hM_42, hz_43, S⟩ := S0.freezeI (by ((have h9 := Up (fun x => x) ((l0.getD 0 []).take i) (sjI (fun x => x) l0 j); have h8 := ZA l0 0 _ hb; simp only [List.length_take] at h9; omega)))
      clear S0
      replace h0 := h0.le hM_42
      exact Qg E Tryz.results265 rfl ⟨_, rfl, M_42, (hM_9.trans (hM_13.trans (hM_35.trans hM_42))), (RdS.eqL hz_43 (by (rw [List.take_of_length_le (by rw [QV (n := 0) (by assumption) rfl]; omega)]; (first | refine (Gj (f := fun x => x) (ll := l0) (by omega) ?_ _).symm | refine Gj (f := fun x => x) (ll := l0) (by omega) ?_ _); (first | (left; omega) | (right; exact bm_nil (f := fun _ => false) (by first | assumption | omega)))))), S.drop⟩
   ·replace E := E.val (t := 45) rfl hc_14
    replace E := E.val (t := 46) rfl hc_14
    replace hc_14 := of_decide_eq_false hc_14
    refine Qd E rfl rfl rfl rfl fun a E => ?_
    refine Qd E rfl rfl rfl rfl fun a E => ?_
    refine Qd E rfl rfl rfl rfl fun a E => ?_
    refine S_v E rfl (QQ E rfl rfl) rfl ?_
    clear E a; intro a E
    refine Qc (T_n ?_)
    refine Ja E rfl rfl ?_
    refine Qt (T_x (T_x (B_x (T_n (Qb (Qa (S_m E rfl rfl fun _ E1 => S_v E1 rfl ((jd E1 S JU rfl).trans (by rw [Wd])) rfl ?_)))))))
    clear E a E1; intro a E
    refine S_x (Jf (k := (QX (sjI (fun x => x) l0 j) (fun _ => false)).length) E S rfl rfl rfl T22 rfl (by omega) (by (have h9 := zj (fun x => x) l0 j; have h8 := ZA l0 (l0.length - 1) _ hb; simp only [zV]; omega)) (by (have h9 := zj (fun x => x) l0 j; have h8 := ZA l0 (l0.length - 1) _ hb; simp only [zV]; omega)) ?_)
    clear E a S; rintro a w v_44 E S
    replace S := S.made0
    refine S_a E rfl rfl fun _ E1 => Qc (T_n (Qb (Qb (Qa (S_m E1 rfl rfl ?_)))))
    clear E a E1; intro a E
    obtain ⟨x_45, hx_45⟩ : ∃ x, (l0)[0]? = some x := ⟨_, List.getElem?_eq_getElem (by omega)⟩
    obtain ⟨p_46, u_47, hp_46, qp_46, hu_47⟩ := h0.at hx_45
    have bu_47 := hu_47.bound
    refine S_v E rfl (QB E rfl rfl T74 hp_46 (by omega)) rfl fun _ E1 => S_v E1 rfl (Qj E1 rfl Tryz.isAgg22 S.imm qp_46) rfl fun _ E2 => S_v E2 rfl (Qp E2 rfl T22 hu_47.len) rfl fun _ E3 => S_m E3 rfl rfl ?_
    clear E a E1 E2 E3; intro a E
    refine Qc (T_n (Qi ?_))
    replace S := S.front1
    replace S := S.front1
    replace S := S.re1 (l' := ZI (fun x => x) (sjI (fun x => x) l0 j) ((l0.getD 0 []).take 0)) (by rfl)
    replace S := S.front1
    replace S := S.reM (L' := (QY Value.bool (QX (JV (fun x => x) (sjI (fun x => x) l0 j) ((l0.getD 0 []).take 0)) (fun _ => false)))) (congrArg (QY Value.bool) (show QX (sjI (fun x => x) l0 j) (fun _ => false) = QX (JV (fun x => x) (sjI (fun x => x) l0 j) ((l0.getD 0 []).take 0)) (fun _ => false) by first | rfl | (rw [List.take_zero]; exact VV _ _) | exact GH (fun x => x) (by assumption) (QV (n := 0) (by assumption) rfl) | (refine jO (fun x => x) (by assumption) (QV (n := 0) (by assumption) rfl) ?_; assumption) | (refine UY (fun x => x) (by assumption) (QV (n := 0) (by assumption) rfl) ?_; assumption) | (refine ql (fun x => x) (by assumption) (QV (n := 0) (by assumption) rfl) ?_; assumption)))
    refine Qx (γ := Nat) (fun (i : Nat) a w => ∃ (M_48 : Hp) (u14 : Value), Hp.le M_13 M_48 ∧ St w M_48 (Zw Value.bool b_8 (QX (JV (fun x => x) (sjI (fun x => x) l0 j) ((l0.getD 0 []).take i)) (fun _ => false)) :: QR 3 u14 (ZI (fun x => x) (sjI (fun x => x) l0 j) ((l0.getD 0 []).take i)) :: H) ∧ Env a 110 [] [(4, .map (some b_8)), (14, u14), (89, u_47), (90, .int .i64 (((x_45).length : Nat) : Int)), (91, .int .i64 ((i : Nat) : Int))] ∧ (i ≤ (l0.getD 0 []).length)) (fun i => (l0.getD 0 []).length - i) 0 ⟨M_13, _, Hp.le.refl _, S, E.keep ⟨rfl, rfl, rfl, rfl, rfl, trivial⟩, (by omega)⟩ ?_
    try clear E
    try clear S
    try clear a
    try clear w
    rintro i a w ⟨M_48, u14, hM_48, S, E, hL4_0⟩
    replace hu_47 := hu_47.le hM_48
    refine Qb (Qa (S_v E rfl (QG E rfl rfl) rfl ?_))
    clear E a; intro a E
    refine Qc (T_n (Qb ?_))
    refine Qn E rfl (fun hc_49 => ?_) (fun hc_49 => ?_)
    ·refine Qh (T_n (Qb (Qi (Qb (Qa ?_)))))
     obtain ⟨x_50, hx_50⟩ : ∃ x, (x_45)[i]? = some x := ⟨_, List.getElem?_eq_getElem (by omega)⟩
     obtain ⟨p_51, hp_51, qp_51⟩ := hu_47.at hx_50
     refine S_v E rfl (QB E rfl rfl T22 hp_51 rfl) rfl fun _ E1 => S_v E1 rfl (Qj E1 rfl Tryz.isAgg3 S.imm qp_51) rfl fun _ E2 => S_a E2 rfl rfl fun _ E3 => Qc (T_n (Qb (Qa (S_m E3 rfl rfl fun _ E4 => S_m E4 rfl rfl ?_))))
     clear E a E1 E2 E3 E4; intro a E
     refine S_x (Yo (vf := Value.bool) (zb := false) E S rfl JU rfl rfl ?_)
     clear E a S; rintro a w E S
     replace S : St w M_48 (Zw Value.bool b_8 (QX (JV (fun x => x) (sjI (fun x => x) l0 j) ((l0.getD 0 []).take i)) (fun _ => false)) :: _) := S
     refine S_m E rfl rfl fun _ E1 => S_v E1 rfl (Qm E1 rfl rfl) rfl fun _ E2 => S_v E2 rfl (Qm E2 rfl rfl) rfl fun _ E3 => S_a E3 rfl rfl fun _ E4 => S_a E4 rfl rfl fun _ E5 => Qc (T_n (Qb (Qa (S_m E5 rfl rfl ?_))))
     clear E a E1 E2 E3 E4 E5; intro a E
     refine Qc (T_n ?_)
     refine QL E rfl (fun hc_52 => ?_) (fun hc_52 => ?_)
     ·refine Qb ?_
      refine Qa (S_m E rfl rfl fun _ E1 => S_m E1 rfl rfl ?_)
      clear E a E1; intro a E
      refine S_x (Qy (ys := [x_50]) E S rfl T22 rfl rfl rfl ?_)
      clear E a S; rintro a w v_53 E S
      replace S := S.front2
      replace S := S.front1
      refine S_x (QH (xs := ZI (fun x => x) (sjI (fun x => x) l0 j) ((l0.getD 0 []).take i)) (ys := [x_50]) E S rfl rfl rfl T22 (by (have h9 := Up (fun x => x) ((l0.getD 0 []).take i) (sjI (fun x => x) l0 j); have h8 := ZA l0 0 _ hb; simp only [List.length_take] at h9; simp only [List.length_cons, List.length_nil]; omega)) ?_)
      clear E a S; rintro a w v_54 E S
      refine S_a E rfl rfl fun _ E1 => Qc (T_n (Qa (S_m E1 rfl rfl fun _ E2 => S_m E2 rfl rfl ?_)))
      clear E a E1 E2; intro a E
      replace S := S.front1
      refine Zr (ja (vf := Value.bool) E S JU rfl rfl ?_)
      clear E a S; rintro a w E S
      refine Qc (B_n (T_n (Qa (S_v E rfl (Qq (m := ((i + 1 : Nat) : Int)) E rfl rfl (by omega) (by omega)) rfl fun _ E1 => S_m E1 rfl rfl ?_))))
      clear E a E1; intro a E
      refine Qc (T_n ?_)
      replace S := S.front1
      replace S := S.re1 (l' := ZI (fun x => x) (sjI (fun x => x) l0 j) ((l0.getD 0 []).take (i + 1))) (by (refine UY (fun x => x) (by assumption) (QV (n := 0) (by assumption) rfl) ?_; assumption))
      replace S := S.front1
      replace S := S.reM (L' := (QY Value.bool (QX (JV (fun x => x) (sjI (fun x => x) l0 j) ((l0.getD 0 []).take (i + 1))) (fun _ => false)))) (congrArg (QY Value.bool) (show Ym (QX (JV (fun x => x) (sjI (fun x => x) l0 j) ((l0.getD 0 []).take i)) (fun _ => false)) x_50 = QX (JV (fun x => x) (sjI (fun x => x) l0 j) ((l0.getD 0 []).take (i + 1))) (fun _ => false) by first | rfl | (rw [List.take_zero]; exact VV _ _) | exact GH (fun x => x) (by assumption) (QV (n := 0) (by assumption) rfl) | (refine jO (fun x => x) (by assumption) (QV (n := 0) (by assumption) rfl) ?_; assumption) | (refine UY (fun x => x) (by assumption) (QV (n := 0) (by assumption) rfl) ?_; assumption) | (refine ql (fun x => x) (by assumption) (QV (n := 0) (by assumption) rfl) ?_; assumption)))
      exact ⟨i + 1, ⟨M_48, _, hM_48, S, E.keep ⟨rfl, rfl, rfl, rfl, rfl, trivial⟩, (by rw [(QV (n := 0) (by assumption) rfl)]; omega)⟩, (by rw [(QV (n := 0) (by assumption) rfl)]; omega)⟩
     ·refine Qh ?_
      refine B_n (T_n (Qa (S_v E rfl (Qq (m := ((i + 1 : Nat) : Int)) E rfl rfl (by omega) (by omega)) rfl fun _ E1 => S_m E1 rfl rfl ?_)))
      clear E a E1; intro a E
      refine Qc (T_n ?_)
      replace S := S.front1
      replace S := S.re1 (l' := ZI (fun x => x) (sjI (fun x => x) l0 j) ((l0.getD 0 []).take (i + 1))) (by (refine ql (fun x => x) (by assumption) (QV (n := 0) (by assumption) rfl) ?_; assumption))
      replace S := S.front1
      replace S := S.reM (L' := (QY Value.bool (QX (JV (fun x => x) (sjI (fun x => x) l0 j) ((l0.getD 0 []).take (i + 1))) (fun _ => false)))) (congrArg (QY Value.bool) (show QX (JV (fun x => x) (sjI (fun x => x) l0 j) ((l0.getD 0 []).take i)) (fun _ => false) = QX (JV (fun x => x) (sjI (fun x => x) l0 j) ((l0.getD 0 []).take (i + 1))) (fun _ => false) by first | rfl | (rw [List.take_zero]; exact VV _ _) | exact GH (fun x => x) (by assumption) (QV (n := 0) (by assumption) rfl) | (refine jO (fun x => x) (by assumption) (QV (n := 0) (by assumption) rfl) ?_; assumption) | (refine UY (fun x => x) (by assumption) (QV (n := 0) (by assumption) rfl) ?_; assumption) | (refine ql (fun x => x) (by assumption) (QV (n := 0) (by assumption) rfl) ?_; assumption)))
      exact ⟨i + 1, ⟨M_48, _, hM_48, S, E.keep ⟨rfl, rfl, rfl, rfl, rfl, trivial⟩, (by rw [(QV (n := 0) (by assumption) rfl)]; omega)⟩, (by rw [(QV (n := 0) (by assumption) rfl)]; omega)⟩
    ·refine Qt (T_x (T_x (B_x (T_n (Qb (Qa (S_m E rfl rfl fun _ E1 => S_a E1 rfl rfl ?_)))))))
     clear E a E1; intro a E
     refine Qc (T_n (Qe ?_))
     replace S := S.front1
     have S0 := S; clear S
     obtain ⟨M_55, hM_55, hz_56, S⟩ := S0.freezeI (by ((have h9 := Up (fun x => x) ((l0.getD 0 []).take i) (sjI (fun x => x) l0 j); have h8 := ZA l0 0 _ hb; simp only [List.length_take] at h9; omega)))
     clear S0
     exact Qg E Tryz.results265 rfl ⟨_, rfl, M_55, (hM_9.trans (hM_13.trans (hM_48.trans hM_55))), (RdS.eqL hz_56 (by (rw [List.take_of_length_le (by rw [QV (n := 0) (by assumption) rfl]; omega)]; (first | refine (Gj (f := fun x => x) (ll := l0) (by omega) ?_ _).symm | refine Gj (f := fun x => x) (ll := l0) (by omega) ?_ _); (first | (left; omega) | (right; exact bm_nil (f := fun _ => false) (by first | assumption | omega)))))), S.drop⟩
theorem zJ {M : Hp} {v0 : Value} {l0 : List (List Int)} (h0 : Jy M v0 l0) (hb : ∀ x ∈ l0, x.length ≤ 1000000000) :
  Pu Tryz.prog (.func (.func 184) #[] #[]) M [v0] (fun r M' => RdI M' r (WI (fun x => x) l0)) := by
 refine Qk Tryz.func184 rfl Tryz.ntmps184 rfl Tryz.call184 ?_
 intro a w M1 H hM1 S E
 replace h0 := h0.le hM1
 have b0 := h0.bound
 have hml := vR (fun x => x) (ll := l0) hb
 refine Qb (Qa (S_a E rfl rfl fun _ E1 => Qc (T_n (Qb (Qa (S_m E1 rfl rfl ?_))))))
 clear E a E1; intro a E
 refine S_x (Qr E S rfl rfl rfl (yF h0 (by assumption)) (Hp.le.refl _) ?_)
 clear E a S; rintro a v_2 w M_1 hM_1 hv_2 S E
 refine S_a E rfl rfl ?_
 clear E a; intro a E
 refine Qc (T_n (Qe ?_))
 exact Qg E Tryz.results184 rfl ⟨_, rfl, M_1, hM_1, hv_2, S⟩
theorem lo_Cut {M : Hp} {v0 v1 : Value} {l0 l1 : List Int} (h0 : RdI M v0 l0) (h1 : RdI M v1 l1) :
  Pu Tryz.prog (.func (.func 266) #[] #[]) M [v0, v1] (fun r M' => ∃ t0 t1, r = .tuple #[t0, t1, .bool ((Yd l0 l1).2.2)] ∧ RdI M' t0 ((Yd l0 l1).1) ∧ RdI M' t1 ((Yd l0 l1).2.1)) := by
 refine Qk Tryz.func266 rfl Tryz.ntmps266 rfl Tryz.call266 ?_
 intro a w M1 H hM1 S E
 replace h0 := h0.le hM1
 replace h1 := h1.le hM1
 have b0 := h0.bound
 have b1 := h1.bound
 refine Qb (Qa (S_a E rfl rfl fun _ E1 => S_a E1 rfl rfl fun _ E2 => S_a E2 rfl rfl fun _ E3 => Qc (T_n (Qb (Qb (Qa (S_m E3 rfl rfl fun _ E4 => S_v E4 rfl (Qp E4 rfl T22 h1.len) rfl fun _ E5 => S_v E5 rfl (Qv E5 rfl rfl) rfl ?_)))))))
 clear E a E1 E2 E3 E4 E5; intro a E
 refine Qc (T_n ?_)
 refine Qn E rfl (fun hc_1 => ?_) (fun hc_1 => ?_)
 ·refine Qb (Qa ?_)
  refine S_x (Jf (k := 0) E S rfl rfl rfl T22 rfl (by omega) (by omega) (by omega) ?_)
  clear E a S; rintro a w v_2 E S
  replace S := S.made0
  refine S_m E rfl rfl fun _ E1 => S_a E1 rfl rfl fun _ E2 => S_a E2 rfl rfl fun _ E3 => S_a E3 rfl rfl ?_
  clear E a E1 E2 E3; intro a E
  refine Qc (T_n (Qe ?_))
  refine T_r ?_
  have S0 := S; clear S
  obtain ⟨M_3, hM_3, hz_4, S⟩ := S0.freezeI (by (first | omega | (simp; omega) | (simp; done) | (simp_all; omega) | grind))
  clear S0
  replace h0 := h0.le hM_3
  replace h1 := h1.le hM_3
  exact GZ E Tryz.results266 rfl rfl rfl ⟨_, rfl, M_3, hM_3, ⟨_, _, (by rw [ZS (k := 0) (by omega) (by simp [List.eq_nil_of_length_eq_zero (l := l1) (by omega)]) (fun j hj => by omega)]; try simp [List.eq_nil_of_length_eq_zero (l := l1) (by omega)]), (RdS.eqL hz_4 (by rw [ZS (k := 0) (by omega) (by simp [List.eq_nil_of_length_eq_zero (l := l1) (by omega)]) (fun j hj => by omega)]; try simp [List.eq_nil_of_length_eq_zero (l := l1) (by omega)])), (by rw [show ((Yd l0 l1).2.1) = l0 from by rw [ZS (k := 0) (by omega) (by simp [List.eq_nil_of_length_eq_zero (l := l1) (by omega)]) (fun j hj => by omega)]; try simp [List.eq_nil_of_length_eq_zero (l := l1) (by omega)]]; exact h0)⟩, S⟩
 ·refine Qh (T_n (Qb (Qb (Qa (S_a E rfl rfl ?_)))))
  clear E a; intro a E
  refine Qc (T_n (Qi ?_))
  refine Qx (γ := Nat) (fun (k : Nat) a w => ∃ (M_5 : Hp), Hp.le M1 M_5 ∧ St w M_5 (H) ∧ Env a 53 [] [(0, v0), (1, v1), (7, .int .i64 ((k : Nat) : Int))] ∧ (k ≤ l0.length + 1) ∧ (¬ (l1.length : Int) = 0) ∧ (∀ j, j < k → ¬ (l0.drop j).take l1.length = l1)) (fun k => l0.length + 1 - k) 0 ⟨M1, Hp.le.refl _, S, E.keep ⟨rfl, rfl, rfl, trivial⟩, by ((try clear S); (try clear E); first | assumption | omega | rfl | (simp; done) | (simp_all; done) | (simp [List.take_add_one, *]; done) | grind [List.take_add_one]), by ((try clear S); (try clear E); first | assumption | omega | rfl | (simp; done) | (simp_all; done) | (simp [List.take_add_one, *]; done) | grind [List.take_add_one]), by ((try clear S); (try clear E); first | assumption | omega | rfl | (simp; done) | (simp_all; done) | (simp [List.take_add_one, *]; done) | grind [List.take_add_one])⟩ ?_
  try clear E
  try clear S
  try clear a
  try clear w
  rintro k a w ⟨M_5, hM_5, S, E, hL0_0, hL0_1, hL0_2⟩
  replace h0 := h0.le hM_5
  replace h1 := h1.le hM_5
  refine Qb (Qb (Qa (S_m E rfl rfl fun _ E1 => S_m E1 rfl rfl fun _ E2 => S_v E2 rfl (Qp E2 rfl T22 h1.len) rfl fun _ E3 => S_v E3 rfl (Qq (m := ((k + (l1).length : Nat) : Int)) E3 rfl rfl (by omega) (by omega)) rfl fun _ E4 => S_m E4 rfl rfl fun _ E5 => S_v E5 rfl (Qp E5 rfl T22 h0.len) rfl ?_)))
  clear E a E1 E2 E3 E4 E5; intro a E
  refine S_v E rfl (ZV E rfl rfl) rfl ?_
  clear E a; intro a E
  refine Qc (T_n ?_)
  refine Qn E rfl (fun hc_6 => ?_) (fun hc_6 => ?_)
  ·refine Qh (T_n (Qb (Qi (Qb (Qa (S_a E rfl rfl fun _ E1 => Qc (T_n (Qb (Qb (Qa (S_a E1 rfl rfl ?_)))))))))))
   clear E a E1; intro a E
   refine Qc (T_n (Qi ?_))
   refine Qx (γ := Nat) (fun (j : Nat) a w => ∃ (M_7 : Hp), Hp.le M_5 M_7 ∧ St w M_7 (H) ∧ Env a 53 [] [(0, v0), (1, v1), (7, .int .i64 ((k : Nat) : Int)), (8, .bool true), (9, .int .i64 ((j : Nat) : Int))] ∧ (j ≤ (l1).length) ∧ ((l0.drop k).take j = l1.take j)) (fun j => ((l1).length) - j) 0 ⟨M_5, Hp.le.refl _, S, E.keep ⟨rfl, rfl, rfl, ZE (i := true) rfl (by ((try clear S); (try clear E); first | assumption | omega | rfl | (simp; done) | (simp_all; done) | (simp [List.take_add_one, *]; done) | grind [List.take_add_one])), rfl, trivial⟩, by ((try clear S); (try clear E); first | assumption | omega | rfl | (simp; done) | (simp_all; done) | (simp [List.take_add_one, *]; done) | grind [List.take_add_one]), by ((try clear S); (try clear E); first | assumption | omega | rfl | (simp; done) | (simp_all; done) | (simp [List.take_add_one, *]; done) | grind [List.take_add_one])⟩ ?_
   try clear E
   try clear S
   try clear a
   try clear w
   rintro j a w ⟨M_7, hM_7, S, E, hL1_0, hL1_1⟩
   replace h0 := h0.le hM_7
   replace h1 := h1.le hM_7
   refine Qb (Qb (Qa (S_m E rfl rfl fun _ E1 => S_m E1 rfl rfl fun _ E2 => S_v E2 rfl (Qp E2 rfl T22 h1.len) rfl fun _ E3 => S_v E3 rfl (QG E3 rfl rfl) rfl ?_)))
   clear E a E1 E2 E3; intro a E
   refine Qc (T_n ?_)
   refine Qn E rfl (fun hc_8 => ?_) (fun hc_8 => ?_)
   ·refine Qh (T_n (Qb (Qi (Qb ?_))))
    replace S := S.mono_heap (w' := World.drew _) rfl
    refine Jx (C := fun x w => agree M_7 w) (bf := (fun i => [])) [0, 1, 2, 3, 4, 5, 6, 7, 8, 9, 10] [0, 1, 2, 3, 4, 5, 6, 7, 8, 9, 10] Tryz.mixed (by kernel_rfl) (fun x hq => S.imm) ?_
    refine D_v E rfl rfl rfl (fun w hC => (Qu E rfl)) fun _ E1 => D_v E1 rfl rfl rfl (fun w hC => (Qu E1 rfl)) fun _ E2 => D_v E2 rfl rfl rfl (fun w hC => (Qu E2 rfl)) fun _ E3 => D_v E3 rfl rfl rfl (fun w hC => (Qq (m := ((k + j : Nat) : Int)) E3 rfl rfl (by omega) (by omega))) ?_
    clear E a E1 E2 E3; intro a E
    obtain ⟨x_9, hx_9⟩ : ∃ x, (l0)[k + j]? = some x := ⟨_, List.getElem?_eq_getElem (by first | omega | (simp; done) | (simp; omega) | (simp_all; omega))⟩
    obtain ⟨p_10, hp_10, qp_10⟩ := h0.at hx_9
    refine D_v E rfl rfl rfl (fun w hC => (QB E rfl rfl T22 hp_10 rfl)) fun _ E1 => D_v E1 rfl rfl rfl (fun w hC => (Qj E1 rfl Tryz.isAgg3 hC qp_10)) fun _ E2 => D_v E2 rfl rfl rfl (fun w hC => (Qu E2 rfl)) fun _ E3 => D_v E3 rfl rfl rfl (fun w hC => (Qu E3 rfl)) ?_
    clear E a E1 E2 E3; intro a E
    obtain ⟨x_11, hx_11⟩ : ∃ x, (l1)[j]? = some x := ⟨_, List.getElem?_eq_getElem (by first | omega | (simp; done) | (simp; omega) | (simp_all; omega))⟩
    obtain ⟨p_12, hp_12, qp_12⟩ := h1.at hx_11
    refine D_v E rfl rfl rfl (fun w hC => (QB E rfl rfl T22 hp_12 rfl)) fun _ E1 => D_v E1 rfl rfl rfl (fun w hC => (Qj E1 rfl Tryz.isAgg3 hC qp_12)) fun _ E2 => D_v E2 rfl rfl rfl (fun w hC => (Yv E2 rfl rfl)) ?_
    clear E a E1 E2; intro a E
    refine Ze (Zd ?_)
    refine T_n ?_
    refine Qn E rfl (fun hc_13 => ?_) (fun hc_13 => ?_)
    ·refine Qb (Qa (S_a E rfl rfl ?_))
     clear E a; intro a E
     refine Qc (T_n (Qt ?_))
     refine B_y rfl ?_
     refine T_x (T_x (B_x (T_n (Qb (Qa (S_m E rfl rfl ?_))))))
     clear E a; intro a E
     refine Qc (T_n ?_)
     refine Ja E rfl rfl ?_
     refine Qh (B_n (T_n (Qa (S_m E rfl rfl fun _ E1 => S_v E1 rfl (Qq (m := ((k + 1 : Nat) : Int)) E1 rfl rfl (by omega) (by omega)) rfl fun _ E2 => S_a E2 rfl rfl ?_))))
     clear E a E1 E2; intro a E
     refine Qc (T_n ?_)
     exact ⟨k + 1, ⟨M_7, (hM_5.trans hM_7), S, E.keep ⟨rfl, rfl, rfl, trivial⟩, by ((try clear S); (try clear E); first | assumption | omega | rfl | (simp; done) | (simp_all; done) | (simp [List.take_add_one, *]; done) | grind [List.take_add_one]), by ((try clear S); (try clear E); first | assumption | omega | rfl | (simp; done) | (simp_all; done) | (simp [List.take_add_one, *]; done) | grind [List.take_add_one]), by ((try clear S); (try clear E); first | assumption | omega | rfl | (simp; done) | (simp_all; done) | (simp [List.take_add_one, *]; done) | grind [List.take_add_one])⟩, by omega⟩
    ·refine Qh (B_n (T_n (Qa (S_m E rfl rfl fun _ E1 => S_v E1 rfl (Qq (m := ((j + 1 : Nat) : Int)) E1 rfl rfl (by omega) (by omega)) rfl fun _ E2 => S_a E2 rfl rfl ?_))))
     clear E a E1 E2; intro a E
     refine Qc (T_n ?_)
     exact ⟨j + 1, ⟨M_7, hM_7, S, E.keep ⟨rfl, rfl, rfl, ZE (i := true) rfl (by ((try clear S); (try clear E); first | assumption | omega | rfl | (simp; done) | (simp_all; done) | (simp [List.take_add_one, *]; done) | grind [List.take_add_one])), rfl, trivial⟩, by ((try clear S); (try clear E); first | assumption | omega | rfl | (simp; done) | (simp_all; done) | (simp [List.take_add_one, *]; done) | grind [List.take_add_one]), by ((try clear S); (try clear E); first | assumption | omega | rfl | (simp; done) | (simp_all; done) | (simp [List.take_add_one, *]; done) | grind [List.take_add_one])⟩, by omega⟩
   ·refine Qt (T_x (T_x (B_x (T_n (Qb (Qa (S_m E rfl rfl ?_)))))))
    clear E a; intro a E
    refine Qc (T_n ?_)
    refine ZK E rfl rfl ?_
    refine Qb ?_
    replace S := S.mono_heap (w' := World.drew _) rfl
    refine Jx (C := fun x w => agree M_7 w) (bf := (fun i => [])) [0, 1, 2, 3, 4, 5, 6, 7, 8, 9, 10, 11] [0, 1, 2, 3, 4, 5, 6, 7, 8, 9, 10, 11] Tryz.mixed (by kernel_rfl) (fun x hq => S.imm) ?_
    refine D_v E rfl rfl rfl (fun w hC => (Qu E rfl)) fun _ E1 => D_v E1 rfl rfl rfl (fun w hC => (Qu E1 rfl)) ?_
    clear E a E1; intro a E
    obtain ⟨v_14, sv_14, hv_14⟩ := h0.subv 0 k (by first | omega | (simp; done) | (simp; omega) | (simp_all; omega)) (by first | omega | (simp; done) | (simp; omega) | (simp_all; omega))
    simp only [List.drop_zero] at hv_14
    replace hv_14 : RdI M_7 v_14 ((l0).take k) := hv_14
    refine D_v E rfl rfl rfl (fun w hC => (Jd E rfl rfl T22 sv_14 (by omega))) fun _ E1 => D_v E1 rfl rfl rfl (fun w hC => (Qu E1 rfl)) fun _ E2 => D_v E2 rfl rfl rfl (fun w hC => (Qu E2 rfl)) fun _ E3 => D_v E3 rfl rfl rfl (fun w hC => (Qu E3 rfl)) fun _ E4 => D_v E4 rfl rfl rfl (fun w hC => (Qp E4 rfl T22 h1.len)) fun _ E5 => D_v E5 rfl rfl rfl (fun w hC => (Qq (m := ((k + (l1).length : Nat) : Int)) E5 rfl rfl (by omega) (by omega))) ?_
    clear E a E1 E2 E3 E4 E5; intro a E
    obtain ⟨v_15, sv_15, hv_15⟩ := h0.subv (k + (l1).length) ((l0).length) (by first | omega | (simp; done) | (simp; omega) | (simp_all; omega)) (by first | omega | (simp; done) | (simp; omega) | (simp_all; omega))
    simp only [List.take_length] at hv_15
    replace hv_15 : RdI M_7 v_15 ((l0).drop (k + (l1).length)) := hv_15
    refine D_v E rfl rfl rfl (fun w hC => (Jq E rfl rfl T22 h0.len sv_15 (by omega))) fun _ E1 => D_v E1 rfl rfl rfl (fun w hC => (Jm E1 rfl)) fun _ E2 => D_v E2 rfl rfl rfl (fun w hC => (Jm E2 rfl)) fun _ E3 => D_v E3 rfl rfl rfl (fun w hC => (Jm E3 rfl)) ?_
    clear E a E1 E2 E3; intro a E
    refine Ze (Zd ?_)
    refine T_n (Qe (B_r ?_))
    refine T_r ?_
    refine T_r ?_
    refine B_r ?_
    refine T_r ?_
    exact GZ E Tryz.results266 rfl rfl rfl ⟨_, rfl, M_7, (hM_5.trans hM_7), ⟨_, _, (by rw [ZS (k := k) (by omega) (by have e : j = l1.length := (by omega); subst e; simpa using hL1_1) hL0_2]), (RdS.eqL hv_14 (by rw [ZS (k := k) (by omega) (by have e : j = l1.length := (by omega); subst e; simpa using hL1_1) hL0_2])), (RdS.eqL hv_15 (by rw [ZS (k := k) (by omega) (by have e : j = l1.length := (by omega); subst e; simpa using hL1_1) hL0_2]))⟩, S⟩
  ·refine Qt (T_x (T_x (B_x (T_n (Qb ?_)))))
   replace S := S.mono_heap (w' := World.drew _) rfl
   refine Jx (C := fun x w => agree M_5 w) (bf := (fun i => [])) [0, 2, 3, 4] [0, 2, 1, 3, 4] Tryz.mixed (by kernel_rfl) (fun x hq => S.imm) ?_
   refine D_v E rfl rfl rfl (fun w hC => (Qu E rfl)) fun _ E1 => D_v E1 rfl rfl rfl (fun w hC => (Jm E1 rfl)) ?_
   clear E a E1; intro a E
   refine D_x rfl rfl rfl (Jf (k := 0) E S rfl rfl rfl T22 rfl (by omega) (by omega) (by omega) ?_)
   clear E a S; rintro a w v_16 E S
   replace S := S.made0
   refine ⟨fun x hq hb => (Qz (Hp.le.refl _) S.imm), ?_⟩
   refine D_v E rfl rfl rfl (fun w hC => (Jm E rfl)) fun _ E1 => D_v E1 rfl rfl rfl (fun w hC => (Jm E1 rfl)) ?_
   clear E a E1; intro a E
   refine Ze (Zd ?_)
   refine T_n (Qe ?_)
   have S0 := S; clear S
   obtain ⟨M_17, hM_17, hz_18, S⟩ := S0.freezeI (by (first | omega | (simp; omega) | (simp; done) | (simp_all; omega) | grind))
   clear S0
   replace h0 := h0.le hM_17
   exact GZ E Tryz.results266 rfl rfl rfl ⟨_, rfl, M_17, (hM_5.trans hM_17), ⟨_, _, (by rw [Vk (k := k) (by omega) hL0_2]), (by rw [show ((Yd l0 l1).1) = l0 from by rw [Vk (k := k) (by omega) hL0_2]]; exact h0), (RdS.eqL hz_18 (by rw [Vk (k := k) (by omega) hL0_2]))⟩, S⟩
theorem impl_Cut {M : Hp} {v0 v1 : Value} {l0 l1 : List Int} (h0 : RdI M v0 l0) (h1 : RdI M v1 l1)(hb : l0.length ≤ 1000000000000) :
  Pu Tryz.prog (.func (.func 185) #[] #[]) M [v0, v1] (fun r M' => ∃ t0 t1, r = .tuple #[t0, t1, .bool ((Yd l0 l1).2.2)] ∧ RdI M' t0 ((Yd l0 l1).1) ∧ RdI M' t1 ((Yd l0 l1).2.1)) := by
 refine Qk Tryz.func185 rfl Tryz.ntmps185 rfl Tryz.call185 ?_
 intro a w M1 H hM1 S E
 replace h0 := h0.le hM1
 replace h1 := h1.le hM1
 have b0 := h0.bound
 have b1 := h1.bound
 have hc0 := cut_len (l := l0) (b := l1)
 refine Qb (Qa (S_a E rfl rfl fun _ E1 => S_a E1 rfl rfl fun _ E2 => S_a E2 rfl rfl fun _ E3 => Qc (T_n (Qb (Qa (S_m E3 rfl rfl fun _ E4 => S_m E4 rfl rfl ?_))))))
 clear E a E1 E2 E3 E4; intro a E
 refine S_x (Qr E S rfl rfl rfl (lo_Cut h0 h1) (Hp.le.refl _) ?_)
 clear E a S; rintro a _ w M_1 hM_1 ⟨v_2, v_3, rfl, hv_2, hv_3⟩ S E
 refine S_m E rfl rfl fun _ E1 => S_v E1 rfl (Qm E1 rfl rfl) rfl fun _ E2 => S_v E2 rfl (Qm E2 rfl rfl) rfl fun _ E3 => S_v E3 rfl (Qm E3 rfl rfl) rfl fun _ E4 => S_a E4 rfl rfl fun _ E5 => S_a E5 rfl rfl ?_
 clear E a E1 E2 E3 E4 E5; intro a E
 refine S_a E rfl rfl fun _ E1 => Qc (T_n (Qb (Qa (S_m E1 rfl rfl ?_))))
 clear E a E1; intro a E
 refine S_x (Vv (p := []) E S rfl rfl rfl (Zz hv_2 (by (first | omega | (simp; omega) | (simp; done) | (simp_all; omega) | grind))) (Hp.le.refl _) ?_)
 clear E a S; rintro a v_5 w M_4 _ hM_4 rfl S E
 replace S : St w M_4 (QR 3 v_5 ((Yd l0 l1).1) :: _) := S
 replace hv_3 := hv_3.le hM_4
 refine S_m E rfl rfl ?_
 clear E a; intro a E
 refine S_x (Vv (p := []) E S rfl rfl rfl (Zz hv_3 (by (first | omega | (simp; omega) | (simp; done) | (simp_all; omega) | grind))) (Hp.le.refl _) ?_)
 clear E a S; rintro a v_7 w M_6 _ hM_6 rfl S E
 replace S : St w M_6 (QR 3 v_7 ((Yd l0 l1).2.1) :: _) := S
 refine S_m E rfl rfl fun _ E1 => S_a E1 rfl rfl fun _ E2 => S_a E2 rfl rfl fun _ E3 => S_a E3 rfl rfl ?_
 clear E a E1 E2 E3; intro a E
 refine Qc (T_n (Qe ?_))
 replace S := S.front1
 have S0 := S; clear S
 obtain ⟨M_8, hM_8, hz_9, S⟩ := S0.freezeI (by (omega))
 clear S0
 have S0 := S; clear S
 obtain ⟨M_10, hM_10, hz_11, S⟩ := S0.freezeI (by (omega))
 clear S0
 replace hz_9 := hz_9.le hM_10
 exact GZ E Tryz.results185 rfl rfl rfl ⟨_, rfl, M_10, (hM_1.trans (hM_4.trans (hM_6.trans (hM_8.trans hM_10)))), ⟨_, _, (by rfl), hz_9, hz_11⟩, S⟩
theorem jA {M : Hp} {sd sn sm pk pn kk kn : Int} {wv cv : Value} {pl c : List Int} (hw : RdI M wv pl) (hc : RdI M cv c) {v1 : Value} {l : List Int} (h1 : RdI M v1 l) {na nb : Nat} (gd : -9223372036854775808 ≤ sd ∧ sd ≤ 9223372036854775807) (gn : -9223372036854775808 ≤ sn ∧ sn ≤ 9223372036854775807) (gm : -9223372036854775808 ≤ sm ∧ sm ≤ 9223372036854775807) (gpn : -9223372036854775808 ≤ pn ∧ pn ≤ 9223372036854775807) (gkn : -9223372036854775808 ≤ kn ∧ kn ≤ 9223372036854775807) (hb : l.length ≤ 10000) (hcb : c.length ≤ 10000) (hpb : pl.length ≤ 10000) (ha : na < 12) (hbb : nb < 12) (hd24 : 24 ≤ (sd % 47).toNat)  :
  Pu Tryz.prog (.func (.func 69) #[] #[]) M [.agg #[.int .i64 sd, .int .i64 sn, .int .i64 sm, .int .i64 pk, .int .i64 pn, wv, .int .i64 kk, .int .i64 kn, cv], v1, .int .i64 ((na : Nat) : Int), .int .i64 ((nb : Nat) : Int)] (fun r M' => RdI M' r (Jo (sd % 47).toNat na nb sn sm pk pn pl kk kn c l)) := by
 refine Qk Tryz.func69 rfl Tryz.ntmps69 rfl Tryz.call69 ?_
 intro a w M1 H hM1 S E
 replace hw := hw.le hM1
 replace hc := hc.le hM1
 replace h1 := h1.le hM1
 have bw := hw.bound
 have bc := hc.bound
 have b1 := h1.bound
 have hdb : (sd % 47).toNat < 47 := by omega
 refine Qb (Qa ?_)
 refine S_x (Jc (cs := #[.int .i64 sd, .int .i64 sn, .int .i64 sm, .int .i64 pk, .int .i64 pn, wv, .int .i64 kk, .int .i64 kn, cv]) E S rfl rfl rfl ?_)
 clear E a S; rintro a w b_1 E S
 obtain ⟨M_2, hM_2, hb_1, S⟩ := S.freezeB
 replace hc := hc.le hM_2
 replace h1 := h1.le hM_2
 refine S_a E rfl rfl fun _ E1 => Qc (T_n (Qb (Qb (Qa (S_v E1 rfl (Ql E1 rfl (VL _)) rfl fun _ E2 => S_v E2 rfl (Qj E2 rfl Tryz.isAgg3 S.imm (Qo hb_1 rfl)) rfl ?_)))))
 clear E a E1 E2; intro a E
 refine S_x (Qr E S rfl rfl rfl (JN (by first | omega | assumption | decide) (by first | omega | decide)) (Hp.le.refl _) ?_)
 clear E a S; rintro a _ w M_3 hM_3 rfl S E
 replace hc := hc.le hM_3
 replace h1 := h1.le hM_3
 replace hb_1 := hM_3.2 _ _ hb_1
 refine Qc (T_n (Qi (Qb (Qa (S_v E rfl (Qv E rfl rfl) rfl fun _ E1 => S_a E1 rfl rfl ?_)))))
 clear E a E1; intro a E
 refine Qc (T_n ?_)
 refine Qn E rfl (fun hc_4 => ?_) (fun hc_4 => ?_)
 ·refine Qb (Qa (S_m E rfl rfl ?_))
  clear E a; intro a E
  refine S_x (Qr E S rfl rfl rfl (yX h1 (by (first | omega | (simp; omega) | (simp; done) | (simp_all; omega) | grind))) (Hp.le.refl _) ?_)
  clear E a S; rintro a v_6 w M_5 hM_5 hv_6 S E
  replace hc := hc.le hM_5
  replace h1 := h1.le hM_5
  replace hb_1 := hM_5.2 _ _ hb_1
  refine S_a E rfl rfl ?_
  clear E a; intro a E
  refine Qc (T_n (Qe (B_r ?_)))
  refine T_r ?_
  exact Qg E Tryz.results69 rfl ⟨_, rfl, M_5, (hM_2.trans (hM_3.trans hM_5)), (RdS.eqL hv_6 (by (rw [show (sd % 47).toNat = 24 from by omega]; rfl))), S⟩
 ·refine Qb (Qa (S_v E rfl (Qv E rfl rfl) rfl fun _ E1 => S_a E1 rfl rfl ?_))
  clear E a E1; intro a E
  refine Qc (T_n ?_)
  refine Qn E rfl (fun hc_7 => ?_) (fun hc_7 => ?_)
  ·refine Qb (Qa (S_m E rfl rfl fun _ E1 => S_m E1 rfl rfl fun _ E2 => S_m E2 rfl rfl fun _ E3 => S_v E3 rfl (Qp E3 rfl T22 h1.len) rfl fun _ E4 => S_v E4 rfl (GC (m := ((min na ((l).length) : Nat) : Int)) E4 rfl rfl (by omega)) rfl fun _ E5 => S_v E5 rfl (Ql E5 rfl (Jl _)) rfl ?_))
   clear E a E1 E2 E3 E4 E5; intro a E
   refine S_v E rfl (Qj E rfl Tryz.isAgg22 S.imm (Qo hb_1 rfl)) rfl ?_
   clear E a; intro a E
   refine S_x (Qr E S rfl rfl rfl (impl_Splice h1 hc (by (first | omega | (simp; omega) | (simp; done) | (simp_all; omega) | grind)) (by (first | omega | (simp; omega) | (simp; done) | (simp_all; omega) | grind))) (Hp.le.refl _) ?_)
   clear E a S; rintro a v_9 w M_8 hM_8 hv_9 S E
   replace hc := hc.le hM_8
   replace h1 := h1.le hM_8
   replace hb_1 := hM_8.2 _ _ hb_1
   refine S_a E rfl rfl ?_
   clear E a; intro a E
   refine Qc (T_n (Qe (B_r ?_)))
   refine T_r ?_
   exact Qg E Tryz.results69 rfl ⟨_, rfl, M_8, (hM_2.trans (hM_3.trans hM_8)), (RdS.eqL hv_9 (by (rw [show (sd % 47).toNat = 25 from by omega]; rfl))), S⟩
  ·refine Qb (Qa (S_v E rfl (Qv E rfl rfl) rfl fun _ E1 => S_a E1 rfl rfl ?_))
   clear E a E1; intro a E
   refine Qc (T_n ?_)
   refine Qn E rfl (fun hc_10 => ?_) (fun hc_10 => ?_)
   ·refine Qb (Qa (S_m E rfl rfl fun _ E1 => S_v E1 rfl (Ql E1 rfl (Jl _)) rfl fun _ E2 => S_v E2 rfl (Qj E2 rfl Tryz.isAgg22 S.imm (Qo hb_1 rfl)) rfl ?_))
    clear E a E1 E2; intro a E
    refine S_x (Qr E S rfl rfl rfl (jE h1 hc (by (first | omega | (simp; omega) | (simp; done) | (simp_all; omega) | grind))) (Hp.le.refl _) ?_)
    clear E a S; rintro a v_12 w M_11 hM_11 hv_12 S E
    replace hc := hc.le hM_11
    replace h1 := h1.le hM_11
    replace hb_1 := hM_11.2 _ _ hb_1
    refine S_a E rfl rfl ?_
    clear E a; intro a E
    refine Qc (T_n (Qe (B_r ?_)))
    refine T_r ?_
    exact Qg E Tryz.results69 rfl ⟨_, rfl, M_11, (hM_2.trans (hM_3.trans hM_11)), (RdS.eqL hv_12 (by (rw [show (sd % 47).toNat = 26 from by omega]; rfl))), S⟩
   ·refine Qb (Qa (S_v E rfl (Qv E rfl rfl) rfl fun _ E1 => S_a E1 rfl rfl ?_))
    clear E a E1; intro a E
    refine Qc (T_n ?_)
    refine Qn E rfl (fun hc_13 => ?_) (fun hc_13 => ?_)
    ·refine Qb (Qa (S_m E rfl rfl fun _ E1 => S_v E1 rfl (Ql E1 rfl (Jl _)) rfl fun _ E2 => S_v E2 rfl (Qj E2 rfl Tryz.isAgg22 S.imm (Qo hb_1 rfl)) rfl ?_))
     clear E a E1 E2; intro a E
     refine S_x (Qr E S rfl rfl rfl (zH h1 hc (by (first | omega | (simp; omega) | (simp; done) | (simp_all; omega) | grind))) (Hp.le.refl _) ?_)
     clear E a S; rintro a v_15 w M_14 hM_14 hv_15 S E
     replace hc := hc.le hM_14
     replace h1 := h1.le hM_14
     replace hb_1 := hM_14.2 _ _ hb_1
     refine S_a E rfl rfl ?_
     clear E a; intro a E
     refine Qc (T_n (Qe (B_r ?_)))
     refine T_r ?_
     exact Qg E Tryz.results69 rfl ⟨_, rfl, M_14, (hM_2.trans (hM_3.trans hM_14)), (RdS.eqL hv_15 (by (rw [show (sd % 47).toNat = 27 from by omega]; rfl))), S⟩
    ·refine Qb (Qa (S_v E rfl (Qv E rfl rfl) rfl fun _ E1 => S_a E1 rfl rfl ?_))
     clear E a E1; intro a E
     refine Qc (T_n ?_)
     refine Qn E rfl (fun hc_16 => ?_) (fun hc_16 => ?_)
     ·refine Qb (Qa (S_m E rfl rfl fun _ E1 => S_v E1 rfl (Ql E1 rfl (Jl _)) rfl fun _ E2 => S_v E2 rfl (Qj E2 rfl Tryz.isAgg22 S.imm (Qo hb_1 rfl)) rfl ?_))
      clear E a E1 E2; intro a E
      refine S_x (Qr E S rfl rfl rfl (impl_Trim h1 hc (by (first | omega | (simp; omega) | (simp; done) | (simp_all; omega) | grind))) (Hp.le.refl _) ?_)
      clear E a S; rintro a v_18 w M_17 hM_17 hv_18 S E
      replace hc := hc.le hM_17
      replace h1 := h1.le hM_17
      replace hb_1 := hM_17.2 _ _ hb_1
      refine S_a E rfl rfl ?_
      clear E a; intro a E
      refine Qc (T_n (Qe (B_r ?_)))
      refine T_r ?_
      exact Qg E Tryz.results69 rfl ⟨_, rfl, M_17, (hM_2.trans (hM_3.trans hM_17)), (RdS.eqL hv_18 (by (rw [show (sd % 47).toNat = 28 from by omega]; rfl))), S⟩
     ·refine Qb (Qa (S_v E rfl (Qv E rfl rfl) rfl fun _ E1 => S_a E1 rfl rfl ?_))
      clear E a E1; intro a E
      refine Qc (T_n ?_)
      refine Qn E rfl (fun hc_19 => ?_) (fun hc_19 => ?_)
      ·refine Qb (Qa (S_m E rfl rfl fun _ E1 => S_v E1 rfl (Ql E1 rfl (Jl _)) rfl fun _ E2 => S_v E2 rfl (Qj E2 rfl Tryz.isAgg22 S.imm (Qo hb_1 rfl)) rfl ?_))
       clear E a E1 E2; intro a E
       refine S_x (Qr E S rfl rfl rfl (qB h1 hc (by (first | omega | (simp; omega) | (simp; done) | (simp_all; omega) | grind))) (Hp.le.refl _) ?_)
       clear E a S; rintro a v_21 w M_20 hM_20 hv_21 S E
       replace hc := hc.le hM_20
       replace h1 := h1.le hM_20
       replace hb_1 := hM_20.2 _ _ hb_1
       refine S_a E rfl rfl ?_
       clear E a; intro a E
       refine Qc (T_n (Qe (B_r ?_)))
       refine T_r ?_
       exact Qg E Tryz.results69 rfl ⟨_, rfl, M_20, (hM_2.trans (hM_3.trans hM_20)), (RdS.eqL hv_21 (by (rw [show (sd % 47).toNat = 29 from by omega]; rfl))), S⟩
      ·refine Qb (Qa (S_v E rfl (Qv E rfl rfl) rfl fun _ E1 => S_a E1 rfl rfl ?_))
       clear E a E1; intro a E
       refine Qc (T_n ?_)
       refine Qn E rfl (fun hc_22 => ?_) (fun hc_22 => ?_)
       ·refine Qb (Qa (S_m E rfl rfl fun _ E1 => S_v E1 rfl (Ql E1 rfl (Jl _)) rfl fun _ E2 => S_v E2 rfl (Qj E2 rfl Tryz.isAgg22 S.imm (Qo hb_1 rfl)) rfl ?_))
        clear E a E1 E2; intro a E
        refine S_x (Qr E S rfl rfl rfl (qA h1 hc (by (first | omega | (simp; omega) | (simp; done) | (simp_all; omega) | grind))) (Hp.le.refl _) ?_)
        clear E a S; rintro a v_24 w M_23 hM_23 hv_24 S E
        replace hc := hc.le hM_23
        replace h1 := h1.le hM_23
        replace hb_1 := hM_23.2 _ _ hb_1
        refine S_a E rfl rfl ?_
        clear E a; intro a E
        refine Qc (T_n (Qe (B_r ?_)))
        refine T_r ?_
        exact Qg E Tryz.results69 rfl ⟨_, rfl, M_23, (hM_2.trans (hM_3.trans hM_23)), (RdS.eqL hv_24 (by (rw [show (sd % 47).toNat = 30 from by omega]; rfl))), S⟩
       ·refine Qb (Qa (S_v E rfl (Qv E rfl rfl) rfl fun _ E1 => S_a E1 rfl rfl ?_))
        clear E a E1; intro a E
        refine Qc (T_n ?_)
        refine Qn E rfl (fun hc_25 => ?_) (fun hc_25 => ?_)
        ·refine Qb (Qa (S_m E rfl rfl fun _ E1 => S_v E1 rfl (Ql E1 rfl (Jl _)) rfl fun _ E2 => S_v E2 rfl (Qj E2 rfl Tryz.isAgg22 S.imm (Qo hb_1 rfl)) rfl ?_))
         clear E a E1 E2; intro a E
         refine S_x (Qr E S rfl rfl rfl (zO h1 hc (by (first | omega | (simp; omega) | (simp; done) | (simp_all; omega) | grind))) (Hp.le.refl _) ?_)
         clear E a S; rintro a _ w M_26 hM_26 ⟨v_27, rfl, hv_27⟩ S E
         replace hc := hc.le hM_26
         replace h1 := h1.le hM_26
         replace hb_1 := hM_26.2 _ _ hb_1
         refine S_v E rfl (Qm E rfl rfl) rfl fun _ E1 => S_v E1 rfl (Qm E1 rfl rfl) rfl ?_
         clear E a E1; intro a E
         refine S_x (Qr E S rfl rfl rfl (VB hv_27) (Hp.le.refl _) ?_)
         clear E a S; rintro a v_29 w M_28 hM_28 hv_29 S E
         replace hc := hc.le hM_28
         replace h1 := h1.le hM_28
         replace hb_1 := hM_28.2 _ _ hb_1
         refine S_a E rfl rfl ?_
         clear E a; intro a E
         refine Qc (T_n (Qe (B_r ?_)))
         refine T_r ?_
         exact Qg E Tryz.results69 rfl ⟨_, rfl, M_28, (hM_2.trans (hM_3.trans (hM_26.trans hM_28))), (RdS.eqL hv_29 (by (rw [show (sd % 47).toNat = 31 from by omega]; rfl))), S⟩
        ·refine Qb (Qa (S_v E rfl (Qv E rfl rfl) rfl fun _ E1 => S_a E1 rfl rfl ?_))
         clear E a E1; intro a E
         refine Qc (T_n ?_)
         refine Qn E rfl (fun hc_30 => ?_) (fun hc_30 => ?_)
         ·refine Qb (Qa (S_m E rfl rfl fun _ E1 => S_v E1 rfl (Ql E1 rfl (Jl _)) rfl fun _ E2 => S_v E2 rfl (Qj E2 rfl Tryz.isAgg22 S.imm (Qo hb_1 rfl)) rfl ?_))
          clear E a E1 E2; intro a E
          refine S_x (Qr E S rfl rfl rfl (zN h1 hc (by (first | omega | (simp; omega) | (simp; done) | (simp_all; omega) | grind))) (Hp.le.refl _) ?_)
          clear E a S; rintro a _ w M_31 hM_31 ⟨v_32, rfl, hv_32⟩ S E
          replace hc := hc.le hM_31
          replace h1 := h1.le hM_31
          replace hb_1 := hM_31.2 _ _ hb_1
          refine S_v E rfl (Qm E rfl rfl) rfl fun _ E1 => S_v E1 rfl (Qm E1 rfl rfl) rfl ?_
          clear E a E1; intro a E
          refine S_x (Qr E S rfl rfl rfl (VB hv_32) (Hp.le.refl _) ?_)
          clear E a S; rintro a v_34 w M_33 hM_33 hv_34 S E
          replace hc := hc.le hM_33
          replace h1 := h1.le hM_33
          replace hb_1 := hM_33.2 _ _ hb_1
          refine S_a E rfl rfl ?_
          clear E a; intro a E
          refine Qc (T_n (Qe (B_r ?_)))
          refine T_r ?_
          exact Qg E Tryz.results69 rfl ⟨_, rfl, M_33, (hM_2.trans (hM_3.trans (hM_31.trans hM_33))), (RdS.eqL hv_34 (by (rw [show (sd % 47).toNat = 32 from by omega]; rfl))), S⟩
         ·refine Qb (Qa (S_v E rfl (Qv E rfl rfl) rfl fun _ E1 => S_a E1 rfl rfl ?_))
          clear E a E1; intro a E
          refine Qc (T_n ?_)
          refine Qn E rfl (fun hc_35 => ?_) (fun hc_35 => ?_)
          ·refine Qb (Qa (S_m E rfl rfl fun _ E1 => S_v E1 rfl (Ql E1 rfl (Jl _)) rfl fun _ E2 => S_v E2 rfl (Qj E2 rfl Tryz.isAgg22 S.imm (Qo hb_1 rfl)) rfl ?_))
           clear E a E1 E2; intro a E
           refine S_x (Qr E S rfl rfl rfl (yQ h1 hc (by (first | omega | (simp; omega) | (simp; done) | (simp_all; omega) | grind))) (Hp.le.refl _) ?_)
           clear E a S; rintro a v_37 w M_36 hM_36 hv_37 S E
           replace hc := hc.le hM_36
           replace h1 := h1.le hM_36
           replace hb_1 := hM_36.2 _ _ hb_1
           refine S_a E rfl rfl ?_
           clear E a; intro a E
           refine Qc (T_n (Qe (B_r ?_)))
           refine T_r ?_
           exact Qg E Tryz.results69 rfl ⟨_, rfl, M_36, (hM_2.trans (hM_3.trans hM_36)), (RdS.eqL hv_37 (by (rw [show (sd % 47).toNat = 33 from by omega]; rfl))), S⟩
          ·refine Qb (Qa (S_v E rfl (Qv E rfl rfl) rfl fun _ E1 => S_a E1 rfl rfl ?_))
           clear E a E1; intro a E
           refine Qc (T_n ?_)
           refine Qn E rfl (fun hc_38 => ?_) (fun hc_38 => ?_)
           ·refine Qb (Qa (S_m E rfl rfl fun _ E1 => S_v E1 rfl (Ql E1 rfl (YZ _)) rfl fun _ E2 => S_v E2 rfl (Jj (off := 6) (part := [.int .i64 kk, .int .i64 kn]) E2 rfl (Tryz.isAgg30 _) (Tryz.sizeOf30 _) S.imm hb_1 rfl rfl) rfl fun _ E3 => S_v E3 rfl (Ql E3 rfl (Jl _)) rfl fun _ E4 => S_v E4 rfl (Qj E4 rfl Tryz.isAgg22 S.imm (Qo hb_1 rfl)) rfl ?_))
            clear E a E1 E2 E3 E4; intro a E
            refine S_x (Qr E S rfl rfl rfl (zG h1 hc (by omega) (by (first | omega | (simp; omega) | (simp; done) | (simp_all; omega) | grind))) (Hp.le.refl _) ?_)
            clear E a S; rintro a v_40 w M_39 hM_39 hv_40 S E
            replace hc := hc.le hM_39
            replace h1 := h1.le hM_39
            replace hb_1 := hM_39.2 _ _ hb_1
            refine S_a E rfl rfl ?_
            clear E a; intro a E
            refine Qc (T_n (Qe (B_r ?_)))
            refine T_r ?_
            exact Qg E Tryz.results69 rfl ⟨_, rfl, M_39, (hM_2.trans (hM_3.trans hM_39)), (RdS.eqL hv_40 (by (rw [show (sd % 47).toNat = 34 from by omega]; rfl))), S⟩
           ·refine Qb (Qa (S_v E rfl (Qv E rfl rfl) rfl fun _ E1 => S_a E1 rfl rfl ?_))
            clear E a E1; intro a E
            refine Qc (T_n ?_)
            refine Qn E rfl (fun hc_41 => ?_) (fun hc_41 => ?_)
            ·refine Qb (Qa (S_m E rfl rfl fun _ E1 => S_v E1 rfl (Ql E1 rfl (Jl _)) rfl fun _ E2 => S_v E2 rfl (Qj E2 rfl Tryz.isAgg22 S.imm (Qo hb_1 rfl)) rfl ?_))
             clear E a E1 E2; intro a E
             refine S_x (JP (R := RSl 1 Jr) (vs := [v1, cv]) (xs := [l, c]) (QN QI) E S rfl T74 rfl rfl rfl (by intro u hu; simp only [List.mem_cons, List.not_mem_nil, or_false] at hu; rcases hu with rfl | rfl <;> first | exact RdI.one h1 | exact RdI.one hc | rfl) rfl (ZC (R := RSl 1 Jr) (RdI.row h1) (ZC (R := RSl 1 Jr) (RdI.row hc) YQ)) ?_)
             clear E a S; rintro a v_42 w M_43 hM_43 hv_42 S E
             replace hv_42 : Jy M_43 v_42 [l, c] := hv_42
             replace hc := hc.le hM_43
             replace h1 := h1.le hM_43
             replace hb_1 := hM_43.2 _ _ hb_1
             refine S_x (Qr E S rfl rfl rfl (impl_Union hv_42 (by first | assumption | omega | (rw [Ga]; omega) | exact Nat.le_trans (JG _ _) (by omega) | exact Zp (by omega) (by omega) (by omega) (by omega) | exact JR (by omega) | (simp; done) | (simp; omega))) (Hp.le.refl _) ?_)
             clear E a S; rintro a v_45 w M_44 hM_44 hv_45 S E
             replace hc := hc.le hM_44
             replace h1 := h1.le hM_44
             replace hb_1 := hM_44.2 _ _ hb_1
             refine S_a E rfl rfl ?_
             clear E a; intro a E
             refine Qc (T_n (Qe (B_r ?_)))
             refine T_r ?_
             exact Qg E Tryz.results69 rfl ⟨_, rfl, M_44, (hM_2.trans (hM_3.trans (hM_43.trans hM_44))), (RdS.eqL hv_45 (by (rw [show (sd % 47).toNat = 35 from by omega]; rfl))), S⟩
            ·refine Qb (Qa (S_v E rfl (Qv E rfl rfl) rfl fun _ E1 => S_a E1 rfl rfl ?_))
             clear E a E1; intro a E
             refine Qc (T_n ?_)
             refine Qn E rfl (fun hc_46 => ?_) (fun hc_46 => ?_)
             ·refine Qb (Qa (S_m E rfl rfl fun _ E1 => S_v E1 rfl (Ql E1 rfl (Jl _)) rfl fun _ E2 => S_v E2 rfl (Qj E2 rfl Tryz.isAgg22 S.imm (Qo hb_1 rfl)) rfl ?_))
              clear E a E1 E2; intro a E
              refine S_x (Qr E S rfl rfl rfl (UG h1 hc (by (first | omega | (simp; omega) | (simp; done) | (simp_all; omega) | grind)) (by (first | omega | (simp; omega) | (simp; done) | (simp_all; omega) | grind))) (Hp.le.refl _) ?_)
              clear E a S; rintro a _ w M_47 hM_47 ⟨v_48, v_49, rfl, hv_48, hv_49⟩ S E
              replace hc := hc.le hM_47
              replace h1 := h1.le hM_47
              replace hb_1 := hM_47.2 _ _ hb_1
              refine S_m E rfl rfl fun _ E1 => S_v E1 rfl (Qm E1 rfl rfl) rfl fun _ E2 => S_v E2 rfl (Qm E2 rfl rfl) rfl fun _ E3 => S_a E3 rfl rfl fun _ E4 => S_a E4 rfl rfl fun _ E5 => Qc (T_n (Qb (Qa (S_m E5 rfl rfl ?_))))
              clear E a E1 E2 E3 E4 E5; intro a E
              refine S_a E rfl rfl ?_
              clear E a; intro a E
              refine Qc (T_n (Qe (B_r ?_)))
              refine T_r ?_
              exact Qg E Tryz.results69 rfl ⟨_, rfl, M_47, (hM_2.trans (hM_3.trans hM_47)), (RdS.eqL hv_48 (by (rw [show (sd % 47).toNat = 36 from by omega]; rfl))), S⟩
             ·refine Qb (Qa (S_v E rfl (Qv E rfl rfl) rfl fun _ E1 => S_a E1 rfl rfl ?_))
              clear E a E1; intro a E
              refine Qc (T_n ?_)
              refine Qn E rfl (fun hc_50 => ?_) (fun hc_50 => ?_)
              ·refine Qb (Qa (S_m E rfl rfl fun _ E1 => S_v E1 rfl (Ql E1 rfl (Jl _)) rfl fun _ E2 => S_v E2 rfl (Qj E2 rfl Tryz.isAgg22 S.imm (Qo hb_1 rfl)) rfl ?_))
               clear E a E1 E2; intro a E
               refine S_x (Qr E S rfl rfl rfl (UG h1 hc (by (first | omega | (simp; omega) | (simp; done) | (simp_all; omega) | grind)) (by (first | omega | (simp; omega) | (simp; done) | (simp_all; omega) | grind))) (Hp.le.refl _) ?_)
               clear E a S; rintro a _ w M_51 hM_51 ⟨v_52, v_53, rfl, hv_52, hv_53⟩ S E
               replace hc := hc.le hM_51
               replace h1 := h1.le hM_51
               replace hb_1 := hM_51.2 _ _ hb_1
               refine S_m E rfl rfl fun _ E1 => S_v E1 rfl (Qm E1 rfl rfl) rfl fun _ E2 => S_v E2 rfl (Qm E2 rfl rfl) rfl fun _ E3 => S_a E3 rfl rfl fun _ E4 => S_a E4 rfl rfl fun _ E5 => Qc (T_n (Qb (Qa (S_m E5 rfl rfl ?_))))
               clear E a E1 E2 E3 E4 E5; intro a E
               refine S_a E rfl rfl ?_
               clear E a; intro a E
               refine Qc (T_n (Qe (B_r ?_)))
               refine T_r ?_
               exact Qg E Tryz.results69 rfl ⟨_, rfl, M_51, (hM_2.trans (hM_3.trans hM_51)), (RdS.eqL hv_53 (by (rw [show (sd % 47).toNat = 37 from by omega]; rfl))), S⟩
              ·refine Qb (Qa (S_v E rfl (Qv E rfl rfl) rfl fun _ E1 => S_a E1 rfl rfl ?_))
               clear E a E1; intro a E
               refine Qc (T_n ?_)
               refine Qn E rfl (fun hc_54 => ?_) (fun hc_54 => ?_)
               ·refine Qb (Qa (S_m E rfl rfl fun _ E1 => S_v E1 rfl (Ql E1 rfl (Jl _)) rfl fun _ E2 => S_v E2 rfl (Qj E2 rfl Tryz.isAgg22 S.imm (Qo hb_1 rfl)) rfl ?_))
                clear E a E1 E2; intro a E
                refine S_x (JP (R := RSl 1 Jr) (vs := [v1, cv]) (xs := [l, c]) (QN QI) E S rfl T74 rfl rfl rfl (by intro u hu; simp only [List.mem_cons, List.not_mem_nil, or_false] at hu; rcases hu with rfl | rfl <;> first | exact RdI.one h1 | exact RdI.one hc | rfl) rfl (ZC (R := RSl 1 Jr) (RdI.row h1) (ZC (R := RSl 1 Jr) (RdI.row hc) YQ)) ?_)
                clear E a S; rintro a v_55 w M_56 hM_56 hv_55 S E
                replace hv_55 : Jy M_56 v_55 [l, c] := hv_55
                replace hc := hc.le hM_56
                replace h1 := h1.le hM_56
                replace hb_1 := hM_56.2 _ _ hb_1
                refine S_x (Qr E S rfl rfl rfl (qE hv_55 (by first | assumption | omega | (rw [Ga]; omega) | exact Nat.le_trans (JG _ _) (by omega) | exact Zp (by omega) (by omega) (by omega) (by omega) | exact JR (by omega) | (simp; done) | (simp; omega))) (Hp.le.refl _) ?_)
                clear E a S; rintro a v_58 w M_57 hM_57 hv_58 S E
                replace hc := hc.le hM_57
                replace h1 := h1.le hM_57
                replace hb_1 := hM_57.2 _ _ hb_1
                refine S_a E rfl rfl ?_
                clear E a; intro a E
                refine Qc (T_n (Qe (B_r ?_)))
                refine T_r ?_
                exact Qg E Tryz.results69 rfl ⟨_, rfl, M_57, (hM_2.trans (hM_3.trans (hM_56.trans hM_57))), (RdS.eqL hv_58 (by (rw [show (sd % 47).toNat = 38 from by omega]; rfl))), S⟩
               ·refine Qb (Qa (S_v E rfl (Qv E rfl rfl) rfl fun _ E1 => S_a E1 rfl rfl ?_))
                clear E a E1; intro a E
                refine Qc (T_n ?_)
                refine Qn E rfl (fun hc_59 => ?_) (fun hc_59 => ?_)
                ·refine Qb (Qa (S_m E rfl rfl fun _ E1 => S_m E1 rfl rfl ?_))
                 clear E a E1; intro a E
                 refine S_x (Qr E S rfl rfl rfl (impl_Chunk h1 (by first | omega | (simp; done) | (simp; omega)) (by first | omega | (simp; done) | (simp; omega))) (Hp.le.refl _) ?_)
                 clear E a S; rintro a _ w M_60 hM_60 ⟨v_61, rfl, hv_61⟩ S E
                 replace hc := hc.le hM_60
                 replace h1 := h1.le hM_60
                 replace hb_1 := hM_60.2 _ _ hb_1
                 refine S_v E rfl (Qm E rfl rfl) rfl fun _ E1 => S_v E1 rfl (Qm E1 rfl rfl) rfl ?_
                 clear E a E1; intro a E
                 refine S_x (Qr E S rfl rfl rfl (Vi hv_61 (by first | assumption | omega | (rw [Ga]; omega) | exact Nat.le_trans (JG _ _) (by omega) | exact Zp (by omega) (by omega) (by omega) (by omega) | exact JR (by omega) | (simp; done) | (simp; omega))) (Hp.le.refl _) ?_)
                 clear E a S; rintro a v_63 w M_62 hM_62 hv_63 S E
                 replace hc := hc.le hM_62
                 replace h1 := h1.le hM_62
                 replace hb_1 := hM_62.2 _ _ hb_1
                 refine S_a E rfl rfl ?_
                 clear E a; intro a E
                 refine Qc (T_n (Qe (B_r ?_)))
                 refine T_r ?_
                 exact Qg E Tryz.results69 rfl ⟨_, rfl, M_62, (hM_2.trans (hM_3.trans (hM_60.trans hM_62))), (RdS.eqL hv_63 (by (rw [show (sd % 47).toNat = 39 from by omega]; rfl))), S⟩
                ·refine Qb (Qa (S_v E rfl (Qv E rfl rfl) rfl fun _ E1 => S_a E1 rfl rfl ?_))
                 clear E a E1; intro a E
                 refine Qc (T_n ?_)
                 refine Qn E rfl (fun hc_64 => ?_) (fun hc_64 => ?_)
                 ·refine Qb (Qa (S_m E rfl rfl fun _ E1 => S_v E1 rfl (Ql E1 rfl (YZ _)) rfl fun _ E2 => S_v E2 rfl (Jj (off := 6) (part := [.int .i64 kk, .int .i64 kn]) E2 rfl (Tryz.isAgg30 _) (Tryz.sizeOf30 _) S.imm hb_1 rfl rfl) rfl ?_))
                  clear E a E1 E2; intro a E
                  refine S_x (Qr E S rfl rfl rfl (GS h1 (by omega) (by (first | omega | (simp; omega) | (simp; done) | (simp_all; omega) | grind))) (Hp.le.refl _) ?_)
                  clear E a S; rintro a v_66 w M_65 hM_65 hv_66 S E
                  replace hc := hc.le hM_65
                  replace h1 := h1.le hM_65
                  replace hb_1 := hM_65.2 _ _ hb_1
                  refine S_x (Qr E S rfl rfl rfl (UX hv_66 (by first | assumption | omega | (rw [Ga]; omega) | exact Nat.le_trans (JG _ _) (by omega) | exact Zp (by omega) (by omega) (by omega) (by omega) | exact JR (by omega) | (simp; done) | (simp; omega))) (Hp.le.refl _) ?_)
                  clear E a S; rintro a v_68 w M_67 hM_67 hv_68 S E
                  replace hc := hc.le hM_67
                  replace h1 := h1.le hM_67
                  replace hb_1 := hM_67.2 _ _ hb_1
                  refine S_a E rfl rfl ?_
                  clear E a; intro a E
                  refine Qc (T_n (Qe (B_r ?_)))
                  refine T_r ?_
                  exact Qg E Tryz.results69 rfl ⟨_, rfl, M_67, (hM_2.trans (hM_3.trans (hM_65.trans hM_67))), (RdS.eqL hv_68 (by (rw [show (sd % 47).toNat = 40 from by omega]; rfl))), S⟩
                 ·refine Qb (Qa (S_v E rfl (Qv E rfl rfl) rfl fun _ E1 => S_a E1 rfl rfl ?_))
                  clear E a E1; intro a E
                  refine Qc (T_n ?_)
                  refine Qn E rfl (fun hc_69 => ?_) (fun hc_69 => ?_)
                  ·refine Qb (Qa (S_m E rfl rfl fun _ E1 => S_m E1 rfl rfl fun _ E2 => S_v E2 rfl (Qq (m := ((na + 1 : Nat) : Int)) E2 rfl rfl (by omega) (by omega)) rfl ?_))
                   clear E a E1 E2; intro a E
                   refine S_x (Qr E S rfl rfl rfl (impl_Window h1 (by first | omega | (simp; done) | (simp; omega)) (by first | omega | (simp; done) | (simp; omega)) (by first | omega | (simp; done) | (simp; omega))) (Hp.le.refl _) ?_)
                   clear E a S; rintro a _ w M_70 hM_70 ⟨v_71, rfl, hv_71⟩ S E
                   replace hc := hc.le hM_70
                   replace h1 := h1.le hM_70
                   replace hb_1 := hM_70.2 _ _ hb_1
                   refine S_v E rfl (Qm E rfl rfl) rfl fun _ E1 => S_v E1 rfl (Qm E1 rfl rfl) rfl ?_
                   clear E a E1; intro a E
                   refine S_x (Qr E S rfl rfl rfl (Vi hv_71 (by first | assumption | omega | (rw [Ga]; omega) | exact Nat.le_trans (JG _ _) (by omega) | exact Zp (by omega) (by omega) (by omega) (by omega) | exact JR (by omega) | (simp; done) | (simp; omega))) (Hp.le.refl _) ?_)
                   clear E a S; rintro a v_73 w M_72 hM_72 hv_73 S E
                   replace hc := hc.le hM_72
                   replace h1 := h1.le hM_72
                   replace hb_1 := hM_72.2 _ _ hb_1
                   refine S_a E rfl rfl ?_
                   clear E a; intro a E
                   refine Qc (T_n (Qe (B_r ?_)))
                   refine T_r ?_
                   exact Qg E Tryz.results69 rfl ⟨_, rfl, M_72, (hM_2.trans (hM_3.trans (hM_70.trans hM_72))), (RdS.eqL hv_73 (by (rw [show (sd % 47).toNat = 41 from by omega]; rfl))), S⟩
                  ·refine Qb (Qa (S_v E rfl (Qv E rfl rfl) rfl fun _ E1 => S_a E1 rfl rfl ?_))
                   clear E a E1; intro a E
                   refine Qc (T_n ?_)
                   refine Qn E rfl (fun hc_74 => ?_) (fun hc_74 => ?_)
                   ·refine Qb (Qa (S_m E rfl rfl fun _ E1 => S_m E1 rfl rfl fun _ E2 => S_v E2 rfl (Qq (m := ((na + 1 : Nat) : Int)) E2 rfl rfl (by omega) (by omega)) rfl fun _ E3 => S_m E3 rfl rfl fun _ E4 => S_v E4 rfl (Qq (m := ((nb + 1 : Nat) : Int)) E4 rfl rfl (by omega) (by omega)) rfl ?_))
                    clear E a E1 E2 E3 E4; intro a E
                    refine S_x (Qr E S rfl rfl rfl (yS h1 (by first | omega | (simp; done) | (simp; omega)) (by first | omega | (simp; done) | (simp; omega)) (by first | omega | (simp; done) | (simp; omega)) (by first | omega | (simp; done) | (simp; omega)) (by first | omega | (simp; done) | (simp; omega))) (Hp.le.refl _) ?_)
                    clear E a S; rintro a _ w M_75 hM_75 ⟨v_76, rfl, hv_76⟩ S E
                    replace hc := hc.le hM_75
                    replace h1 := h1.le hM_75
                    replace hb_1 := hM_75.2 _ _ hb_1
                    refine S_v E rfl (Qm E rfl rfl) rfl fun _ E1 => S_v E1 rfl (Qm E1 rfl rfl) rfl ?_
                    clear E a E1; intro a E
                    refine S_x (Qr E S rfl rfl rfl (Vi hv_76 (by first | assumption | omega | (rw [Ga]; omega) | exact Nat.le_trans (JG _ _) (by omega) | exact Zp (by omega) (by omega) (by omega) (by omega) | exact JR (by omega) | (simp; done) | (simp; omega))) (Hp.le.refl _) ?_)
                    clear E a S; rintro a v_78 w M_77 hM_77 hv_78 S E
                    replace hc := hc.le hM_77
                    replace h1 := h1.le hM_77
                    replace hb_1 := hM_77.2 _ _ hb_1
                    refine S_a E rfl rfl ?_
                    clear E a; intro a E
                    refine Qc (T_n (Qe (B_r ?_)))
                    refine T_r ?_
                    exact Qg E Tryz.results69 rfl ⟨_, rfl, M_77, (hM_2.trans (hM_3.trans (hM_75.trans hM_77))), (RdS.eqL hv_78 (by (rw [show (sd % 47).toNat = 42 from by omega]; rfl))), S⟩
                   ·refine Qb (Qa (S_v E rfl (Qv E rfl rfl) rfl fun _ E1 => S_a E1 rfl rfl ?_))
                    clear E a E1; intro a E
                    refine Qc (T_n ?_)
                    refine Qn E rfl (fun hc_79 => ?_) (fun hc_79 => ?_)
                    ·refine Qb (Qa (S_m E rfl rfl ?_))
                     clear E a; intro a E
                     refine S_x (Qr E S rfl rfl rfl (impl_Keyify h1 (by (first | omega | (simp; omega) | (simp; done) | (simp_all; omega) | grind))) (Hp.le.refl _) ?_)
                     clear E a S; rintro a v_81 w M_80 hM_80 hv_81 S E
                     replace hc := hc.le hM_80
                     replace h1 := h1.le hM_80
                     replace hb_1 := hM_80.2 _ _ hb_1
                     refine S_a E rfl rfl ?_
                     clear E a; intro a E
                     refine Qc (T_n (Qe (B_r ?_)))
                     refine T_r ?_
                     exact Qg E Tryz.results69 rfl ⟨_, rfl, M_80, (hM_2.trans (hM_3.trans hM_80)), (RdS.eqL hv_81 (by (rw [show (sd % 47).toNat = 43 from by omega]; rfl))), S⟩
                    ·refine Qb (Qa (S_v E rfl (Qv E rfl rfl) rfl fun _ E1 => S_a E1 rfl rfl ?_))
                     clear E a E1; intro a E
                     refine Qc (T_n ?_)
                     refine Qn E rfl (fun hc_82 => ?_) (fun hc_82 => ?_)
                     ·refine Qb (Qa (S_m E rfl rfl fun _ E1 => S_v E1 rfl (Ql E1 rfl (Jl _)) rfl fun _ E2 => S_v E2 rfl (Qj E2 rfl Tryz.isAgg22 S.imm (Qo hb_1 rfl)) rfl ?_))
                      clear E a E1 E2; intro a E
                      refine S_x (JP (R := RSl 1 Jr) (vs := [v1, cv]) (xs := [l, c]) (QN QI) E S rfl T74 rfl rfl rfl (by intro u hu; simp only [List.mem_cons, List.not_mem_nil, or_false] at hu; rcases hu with rfl | rfl <;> first | exact RdI.one h1 | exact RdI.one hc | rfl) rfl (ZC (R := RSl 1 Jr) (RdI.row h1) (ZC (R := RSl 1 Jr) (RdI.row hc) YQ)) ?_)
                      clear E a S; rintro a v_83 w M_84 hM_84 hv_83 S E
                      replace hv_83 : Jy M_84 v_83 [l, c] := hv_83
                      replace hc := hc.le hM_84
                      replace h1 := h1.le hM_84
                      replace hb_1 := hM_84.2 _ _ hb_1
                      refine S_x (Qr E S rfl rfl rfl (yV hv_83 (by first | assumption | omega | (rw [Ga]; omega) | exact Nat.le_trans (JG _ _) (by omega) | exact Zp (by omega) (by omega) (by omega) (by omega) | exact JR (by omega) | (simp; done) | (simp; omega))) (Hp.le.refl _) ?_)
                      clear E a S; rintro a v_86 w M_85 hM_85 hv_86 S E
                      replace hc := hc.le hM_85
                      replace h1 := h1.le hM_85
                      replace hb_1 := hM_85.2 _ _ hb_1
                      refine S_a E rfl rfl ?_
                      clear E a; intro a E
                      refine Qc (T_n (Qe (B_r ?_)))
                      refine T_r ?_
                      exact Qg E Tryz.results69 rfl ⟨_, rfl, M_85, (hM_2.trans (hM_3.trans (hM_84.trans hM_85))), (RdS.eqL hv_86 (by (rw [show (sd % 47).toNat = 44 from by omega]; rfl))), S⟩
                     ·refine Qb (Qa (S_v E rfl (Qv E rfl rfl) rfl fun _ E1 => S_a E1 rfl rfl ?_))
                      clear E a E1; intro a E
                      refine Qc (T_n ?_)
                      refine Qn E rfl (fun hc_87 => ?_) (fun hc_87 => ?_)
                      ·refine Qb (Qa (S_m E rfl rfl fun _ E1 => S_v E1 rfl (Ql E1 rfl (Jl _)) rfl fun _ E2 => S_v E2 rfl (Qj E2 rfl Tryz.isAgg22 S.imm (Qo hb_1 rfl)) rfl ?_))
                       clear E a E1 E2; intro a E
                       refine S_x (JP (R := RSl 1 Jr) (vs := [v1, cv]) (xs := [l, c]) (QN QI) E S rfl T74 rfl rfl rfl (by intro u hu; simp only [List.mem_cons, List.not_mem_nil, or_false] at hu; rcases hu with rfl | rfl <;> first | exact RdI.one h1 | exact RdI.one hc | rfl) rfl (ZC (R := RSl 1 Jr) (RdI.row h1) (ZC (R := RSl 1 Jr) (RdI.row hc) YQ)) ?_)
                       clear E a S; rintro a v_88 w M_89 hM_89 hv_88 S E
                       replace hv_88 : Jy M_89 v_88 [l, c] := hv_88
                       replace hc := hc.le hM_89
                       replace h1 := h1.le hM_89
                       replace hb_1 := hM_89.2 _ _ hb_1
                       refine S_x (Qr E S rfl rfl rfl (zJ hv_88 (by first | assumption | omega | (intro x hx; simp only [List.mem_cons, List.not_mem_nil, or_false] at hx; rcases hx with rfl | rfl <;> omega) | (intro x hx; simp only [List.mem_cons, List.not_mem_nil, or_false] at hx; rcases hx with rfl | rfl <;> simp; done))) (Hp.le.refl _) ?_)
                       clear E a S; rintro a v_91 w M_90 hM_90 hv_91 S E
                       replace hc := hc.le hM_90
                       replace h1 := h1.le hM_90
                       replace hb_1 := hM_90.2 _ _ hb_1
                       refine S_x (Qr E S rfl rfl rfl (qk hv_91 (by first | exact vY (by omega) | first | omega | exact jU (by omega) (by omega) | (first | omega | (simp; omega) | (simp; done) | (simp_all; omega) | grind))) (Hp.le.refl _) ?_)
                       clear E a S; rintro a v_93 w M_92 hM_92 hv_93 S E
                       replace hc := hc.le hM_92
                       replace h1 := h1.le hM_92
                       replace hb_1 := hM_92.2 _ _ hb_1
                       refine S_a E rfl rfl ?_
                       clear E a; intro a E
                       refine Qc (T_n (Qe (B_r ?_)))
                       refine T_r ?_
                       exact Qg E Tryz.results69 rfl ⟨_, rfl, M_92, (hM_2.trans (hM_3.trans (hM_89.trans (hM_90.trans hM_92)))), (RdS.eqL hv_93 (by (rw [show (sd % 47).toNat = 45 from by omega]; rfl))), S⟩
                      ·refine Qh (B_n (T_n (Qb (Qa (S_m E rfl rfl fun _ E1 => S_v E1 rfl (Ql E1 rfl (Jl _)) rfl fun _ E2 => S_v E2 rfl (Qj E2 rfl Tryz.isAgg22 S.imm (Qo hb_1 rfl)) rfl ?_)))))
                       clear E a E1 E2; intro a E
                       refine S_x (Qr E S rfl rfl rfl (impl_Cut h1 hc (by (first | omega | (simp; omega) | (simp; done) | (simp_all; omega) | grind))) (Hp.le.refl _) ?_)
                       clear E a S; rintro a _ w M_94 hM_94 ⟨v_95, v_96, rfl, hv_95, hv_96⟩ S E
                       refine S_v E rfl (Qm E rfl rfl) rfl fun _ E1 => S_v E1 rfl (Qm E1 rfl rfl) rfl fun _ E2 => S_v E2 rfl (Qm E2 rfl rfl) rfl ?_
                       clear E a E1 E2; intro a E
                       refine S_x (Qr E S rfl rfl rfl (vU hv_95 hv_96 (by first | assumption | omega | exact cut2_len (by omega))) (Hp.le.refl _) ?_)
                       clear E a S; rintro a v_98 w M_97 hM_97 hv_98 S E
                       refine S_a E rfl rfl ?_
                       clear E a; intro a E
                       refine Qc (T_n (Qe ?_))
                       exact Qg E Tryz.results69 rfl ⟨_, rfl, M_97, (hM_2.trans (hM_3.trans (hM_94.trans hM_97))), (RdS.eqL hv_98 (by (rw [show (sd % 47).toNat = 46 from by omega]; rfl))), S⟩
theorem laws_play {M : Hp} {sd sn sm pk pn kk kn : Int} {wv cv : Value} {pl c : List Int} (hw : RdI M wv pl) (hc : RdI M cv c) {v1 : Value} {l : List Int} (h1 : RdI M v1 l) (gd : -9223372036854775808 ≤ sd ∧ sd ≤ 9223372036854775807) (gn : -9223372036854775808 ≤ sn ∧ sn ≤ 9223372036854775807) (gm : -9223372036854775808 ≤ sm ∧ sm ≤ 9223372036854775807) (gpn : -9223372036854775808 ≤ pn ∧ pn ≤ 9223372036854775807) (gkn : -9223372036854775808 ≤ kn ∧ kn ≤ 9223372036854775807) (hb : l.length ≤ 10000) (hcb : c.length ≤ 10000) (hpb : pl.length ≤ 10000)  :
  Pu Tryz.prog (.func (.func 11) #[] #[]) M [.agg #[.int .i64 sd, .int .i64 sn, .int .i64 sm, .int .i64 pk, .int .i64 pn, wv, .int .i64 kk, .int .i64 kn, cv], v1] (fun r M' => RdI M' r (Jo (sd % 47).toNat ((sn % 12).toNat) ((sm % 12).toNat) sn sm pk pn pl kk kn c l)) := by
 refine Qk Tryz.func11 rfl Tryz.ntmps11 rfl Tryz.call11 ?_
 intro a w M1 H hM1 S E
 replace hw := hw.le hM1
 replace hc := hc.le hM1
 replace h1 := h1.le hM1
 have bw := hw.bound
 have bc := hc.bound
 have b1 := h1.bound
 have hdb : (sd % 47).toNat < 47 := by omega
 have hab : (sn % 12).toNat < 12 := by omega
 have hbb : (sm % 12).toNat < 12 := by omega
 refine Qb (Qa ?_)
 refine S_x (Jc (cs := #[.int .i64 sd, .int .i64 sn, .int .i64 sm, .int .i64 pk, .int .i64 pn, wv, .int .i64 kk, .int .i64 kn, cv]) E S rfl rfl rfl ?_)
 clear E a S; rintro a w b_1 E S
 obtain ⟨M_2, hM_2, hb_1, S⟩ := S.freezeB
 replace hw := hw.le hM_2
 replace hc := hc.le hM_2
 replace h1 := h1.le hM_2
 refine S_a E rfl rfl ?_
 clear E a; intro a E
 refine Qc (T_n (Qb ?_))
 have hb_1k2 := hb_1
 replace S := S.mono_heap (w' := World.drew _) rfl
 refine Jx (C := fun x w => agree M_2 w) (bf := (fun i => [])) [0, 1, 3, 4, 6, 7] [0, 1, 3, 4, 2, 5, 6, 7] Tryz.mixed (by kernel_rfl) (fun x hq => S.imm) ?_
 refine D_v E rfl rfl rfl (fun w hC => (Ql E rfl (Wj _))) fun _ E1 => D_v E1 rfl rfl rfl (fun w hC => (Qj E1 rfl Tryz.isAgg3 hC (Qo hb_1k2 rfl))) fun _ E2 => D_v E2 rfl rfl rfl (fun w hC => (Ql E2 rfl (Wi _))) fun _ E3 => D_v E3 rfl rfl rfl (fun w hC => (Qj E3 rfl Tryz.isAgg3 hC (Qo hb_1k2 rfl))) ?_
 clear E a E1 E2 E3; intro a E
 refine D_x rfl rfl rfl (Qr E S rfl rfl rfl (JN (by omega) (by omega)) (Hp.le.refl _) ?_)
 clear E a S; rintro a _ w M_3 hM_3 rfl S E
 replace hw := hw.le hM_3
 replace hc := hc.le hM_3
 replace h1 := h1.le hM_3
 replace hb_1 := hM_3.2 _ _ hb_1
 refine ⟨fun x hq hb => (Qz hM_3 S.imm), ?_⟩
 refine D_x rfl rfl rfl (Qr E S rfl rfl rfl (JN (by omega) (by omega)) (Hp.le.refl _) ?_)
 clear E a S; rintro a _ w M_4 hM_4 rfl S E
 replace hw := hw.le hM_4
 replace hc := hc.le hM_4
 replace h1 := h1.le hM_4
 replace hb_1 := hM_4.2 _ _ hb_1
 refine ⟨fun x hq hb => (Qz (hM_3.trans hM_4) S.imm), ?_⟩
 refine D_v E rfl rfl rfl (fun w hC => (Jm E rfl)) fun _ E1 => D_v E1 rfl rfl rfl (fun w hC => (Jm E1 rfl)) ?_
 clear E a E1; intro a E
 refine Ze (Zd ?_)
 refine T_n (Qb (Qa (S_v E rfl (Ql E rfl (VL _)) rfl fun _ E1 => S_v E1 rfl (Qj E1 rfl Tryz.isAgg3 S.imm (Qo hb_1 rfl)) rfl ?_)))
 clear E a E1; intro a E
 refine S_x (Qr E S rfl rfl rfl (JN (by omega) (by omega)) (Hp.le.refl _) ?_)
 clear E a S; rintro a _ w M_5 hM_5 rfl S E
 replace hw := hw.le hM_5
 replace hc := hc.le hM_5
 replace h1 := h1.le hM_5
 replace hb_1 := hM_5.2 _ _ hb_1
 refine Qc (T_n (Qi (Qb (Qa (S_v E rfl (Qv E rfl rfl) rfl fun _ E1 => S_a E1 rfl rfl ?_)))))
 clear E a E1; intro a E
 refine Qc (T_n ?_)
 refine Qn E rfl (fun hc_6 => ?_) (fun hc_6 => ?_)
 ·refine Qb (Qa (S_m E rfl rfl fun _ E1 => S_v E1 rfl (Ql E1 rfl (Vt _)) rfl fun _ E2 => S_v E2 rfl (Jj (off := 3) (part := [.int .i64 pk, .int .i64 pn, wv]) E2 rfl (Tryz.isAgg27 _) (Tryz.sizeOf27 _) S.imm hb_1 rfl rfl) rfl ?_))
  clear E a E1 E2; intro a E
  refine S_x (Qr E S rfl rfl rfl (qn h1 hw (by omega) (by (omega))) (Hp.le.refl _) ?_)
  clear E a S; rintro a v_8 w M_7 hM_7 hv_8 S E
  replace hw := hw.le hM_7
  replace hc := hc.le hM_7
  replace h1 := h1.le hM_7
  replace hb_1 := hM_7.2 _ _ hb_1
  refine S_a E rfl rfl ?_
  clear E a; intro a E
  refine Qc (T_n (Qe (B_r ?_)))
  exact Qg E Tryz.results11 rfl ⟨_, rfl, M_7, (hM_2.trans (hM_3.trans (hM_4.trans (hM_5.trans hM_7)))), (RdS.eqL hv_8 (by ((rw [show (sd % 47).toNat = 0 from by omega]; rfl)))), S⟩
 ·refine Qb (Qa (S_v E rfl (Qv E rfl rfl) rfl fun _ E1 => S_a E1 rfl rfl ?_))
  clear E a E1; intro a E
  refine Qc (T_n ?_)
  refine Qn E rfl (fun hc_9 => ?_) (fun hc_9 => ?_)
  ·refine Qb (Qa (S_m E rfl rfl fun _ E1 => S_v E1 rfl (Ql E1 rfl (Vt _)) rfl fun _ E2 => S_v E2 rfl (Jj (off := 3) (part := [.int .i64 pk, .int .i64 pn, wv]) E2 rfl (Tryz.isAgg27 _) (Tryz.sizeOf27 _) S.imm hb_1 rfl rfl) rfl ?_))
   clear E a E1 E2; intro a E
   refine S_x (Qr E S rfl rfl rfl (impl_Reject h1 hw (by omega) (by (omega))) (Hp.le.refl _) ?_)
   clear E a S; rintro a v_11 w M_10 hM_10 hv_11 S E
   replace hw := hw.le hM_10
   replace hc := hc.le hM_10
   replace h1 := h1.le hM_10
   replace hb_1 := hM_10.2 _ _ hb_1
   refine S_a E rfl rfl ?_
   clear E a; intro a E
   refine Qc (T_n (Qe (B_r ?_)))
   exact Qg E Tryz.results11 rfl ⟨_, rfl, M_10, (hM_2.trans (hM_3.trans (hM_4.trans (hM_5.trans hM_10)))), (RdS.eqL hv_11 (by ((rw [show (sd % 47).toNat = 1 from by omega]; rfl)))), S⟩
  ·refine Qb (Qa (S_v E rfl (Qv E rfl rfl) rfl fun _ E1 => S_a E1 rfl rfl ?_))
   clear E a E1; intro a E
   refine Qc (T_n ?_)
   refine Qn E rfl (fun hc_12 => ?_) (fun hc_12 => ?_)
   ·refine Qb (Qa (S_m E rfl rfl fun _ E1 => S_v E1 rfl (Ql E1 rfl (YZ _)) rfl fun _ E2 => S_v E2 rfl (Jj (off := 6) (part := [.int .i64 kk, .int .i64 kn]) E2 rfl (Tryz.isAgg30 _) (Tryz.sizeOf30 _) S.imm hb_1 rfl rfl) rfl ?_))
    clear E a E1 E2; intro a E
    refine S_x (Qr E S rfl rfl rfl (impl_Map h1 (by omega) (by (omega))) (Hp.le.refl _) ?_)
    clear E a S; rintro a v_14 w M_13 hM_13 hv_14 S E
    replace hw := hw.le hM_13
    replace hc := hc.le hM_13
    replace h1 := h1.le hM_13
    replace hb_1 := hM_13.2 _ _ hb_1
    refine S_a E rfl rfl ?_
    clear E a; intro a E
    refine Qc (T_n (Qe (B_r ?_)))
    exact Qg E Tryz.results11 rfl ⟨_, rfl, M_13, (hM_2.trans (hM_3.trans (hM_4.trans (hM_5.trans hM_13)))), (RdS.eqL hv_14 (by ((rw [show (sd % 47).toNat = 2 from by omega]; rfl)))), S⟩
   ·refine Qb (Qa (S_v E rfl (Qv E rfl rfl) rfl fun _ E1 => S_a E1 rfl rfl ?_))
    clear E a E1; intro a E
    refine Qc (T_n ?_)
    refine Qn E rfl (fun hc_15 => ?_) (fun hc_15 => ?_)
    ·refine Qb (Qa (S_m E rfl rfl fun _ E1 => S_v E1 rfl (Ql E1 rfl (Vt _)) rfl fun _ E2 => S_v E2 rfl (Jj (off := 3) (part := [.int .i64 pk, .int .i64 pn, wv]) E2 rfl (Tryz.isAgg27 _) (Tryz.sizeOf27 _) S.imm hb_1 rfl rfl) rfl fun _ E3 => S_v E3 rfl (Ql E3 rfl (YZ _)) rfl fun _ E4 => S_v E4 rfl (Jj (off := 6) (part := [.int .i64 kk, .int .i64 kn]) E4 rfl (Tryz.isAgg30 _) (Tryz.sizeOf30 _) S.imm hb_1 rfl rfl) rfl ?_))
     clear E a E1 E2 E3 E4; intro a E
     refine S_x (Qr E S rfl rfl rfl (zK h1 hw (by omega) (by omega) (by (omega))) (Hp.le.refl _) ?_)
     clear E a S; rintro a v_17 w M_16 hM_16 hv_17 S E
     replace hw := hw.le hM_16
     replace hc := hc.le hM_16
     replace h1 := h1.le hM_16
     replace hb_1 := hM_16.2 _ _ hb_1
     refine S_a E rfl rfl ?_
     clear E a; intro a E
     refine Qc (T_n (Qe (B_r ?_)))
     exact Qg E Tryz.results11 rfl ⟨_, rfl, M_16, (hM_2.trans (hM_3.trans (hM_4.trans (hM_5.trans hM_16)))), (RdS.eqL hv_17 (by ((rw [show (sd % 47).toNat = 3 from by omega]; rfl)))), S⟩
    ·refine Qb (Qa (S_v E rfl (Qv E rfl rfl) rfl fun _ E1 => S_a E1 rfl rfl ?_))
     clear E a E1; intro a E
     refine Qc (T_n ?_)
     refine Qn E rfl (fun hc_18 => ?_) (fun hc_18 => ?_)
     ·refine Qb (Qa (S_m E rfl rfl fun _ E1 => S_v E1 rfl (Ql E1 rfl (YZ _)) rfl fun _ E2 => S_v E2 rfl (Jj (off := 6) (part := [.int .i64 kk, .int .i64 kn]) E2 rfl (Tryz.isAgg30 _) (Tryz.sizeOf30 _) S.imm hb_1 rfl rfl) rfl ?_))
      clear E a E1 E2; intro a E
      refine S_x (Qr E S rfl rfl rfl (yW h1 (by omega) (by (omega))) (Hp.le.refl _) ?_)
      clear E a S; rintro a v_20 w M_19 hM_19 hv_20 S E
      replace hw := hw.le hM_19
      replace hc := hc.le hM_19
      replace h1 := h1.le hM_19
      replace hb_1 := hM_19.2 _ _ hb_1
      refine S_a E rfl rfl ?_
      clear E a; intro a E
      refine Qc (T_n (Qe (B_r ?_)))
      exact Qg E Tryz.results11 rfl ⟨_, rfl, M_19, (hM_2.trans (hM_3.trans (hM_4.trans (hM_5.trans hM_19)))), (RdS.eqL hv_20 (by ((rw [show (sd % 47).toNat = 4 from by omega]; rfl)))), S⟩
     ·refine Qb (Qa (S_v E rfl (Qv E rfl rfl) rfl fun _ E1 => S_a E1 rfl rfl ?_))
      clear E a E1; intro a E
      refine Qc (T_n ?_)
      refine Qn E rfl (fun hc_21 => ?_) (fun hc_21 => ?_)
      ·refine Qb (Qa (S_m E rfl rfl ?_))
       clear E a; intro a E
       refine S_x (Qr E S rfl rfl rfl (impl_Uniq h1 (by (omega))) (Hp.le.refl _) ?_)
       clear E a S; rintro a v_23 w M_22 hM_22 hv_23 S E
       replace hw := hw.le hM_22
       replace hc := hc.le hM_22
       replace h1 := h1.le hM_22
       replace hb_1 := hM_22.2 _ _ hb_1
       refine S_a E rfl rfl ?_
       clear E a; intro a E
       refine Qc (T_n (Qe (B_r ?_)))
       exact Qg E Tryz.results11 rfl ⟨_, rfl, M_22, (hM_2.trans (hM_3.trans (hM_4.trans (hM_5.trans hM_22)))), (RdS.eqL hv_23 (by ((rw [show (sd % 47).toNat = 5 from by omega]; rfl)))), S⟩
      ·refine Qb (Qa (S_v E rfl (Qv E rfl rfl) rfl fun _ E1 => S_a E1 rfl rfl ?_))
       clear E a E1; intro a E
       refine Qc (T_n ?_)
       refine Qn E rfl (fun hc_24 => ?_) (fun hc_24 => ?_)
       ·refine Qb (Qa (S_m E rfl rfl fun _ E1 => S_v E1 rfl (Ql E1 rfl (YZ _)) rfl fun _ E2 => S_v E2 rfl (Jj (off := 6) (part := [.int .i64 kk, .int .i64 kn]) E2 rfl (Tryz.isAgg30 _) (Tryz.sizeOf30 _) S.imm hb_1 rfl rfl) rfl ?_))
        clear E a E1 E2; intro a E
        refine S_x (Qr E S rfl rfl rfl (impl_UniqBy h1 (by omega) (by (omega))) (Hp.le.refl _) ?_)
        clear E a S; rintro a v_26 w M_25 hM_25 hv_26 S E
        replace hw := hw.le hM_25
        replace hc := hc.le hM_25
        replace h1 := h1.le hM_25
        replace hb_1 := hM_25.2 _ _ hb_1
        refine S_a E rfl rfl ?_
        clear E a; intro a E
        refine Qc (T_n (Qe (B_r ?_)))
        exact Qg E Tryz.results11 rfl ⟨_, rfl, M_25, (hM_2.trans (hM_3.trans (hM_4.trans (hM_5.trans hM_25)))), (RdS.eqL hv_26 (by ((rw [show (sd % 47).toNat = 6 from by omega]; rfl)))), S⟩
       ·refine Qb (Qa (S_v E rfl (Qv E rfl rfl) rfl fun _ E1 => S_a E1 rfl rfl ?_))
        clear E a E1; intro a E
        refine Qc (T_n ?_)
        refine Qn E rfl (fun hc_27 => ?_) (fun hc_27 => ?_)
        ·refine Qb (Qa (S_m E rfl rfl ?_))
         clear E a; intro a E
         refine S_x (Qr E S rfl rfl rfl (GT h1 (by (omega))) (Hp.le.refl _) ?_)
         clear E a S; rintro a v_29 w M_28 hM_28 hv_29 S E
         replace hw := hw.le hM_28
         replace hc := hc.le hM_28
         replace h1 := h1.le hM_28
         replace hb_1 := hM_28.2 _ _ hb_1
         refine S_a E rfl rfl ?_
         clear E a; intro a E
         refine Qc (T_n (Qe (B_r ?_)))
         exact Qg E Tryz.results11 rfl ⟨_, rfl, M_28, (hM_2.trans (hM_3.trans (hM_4.trans (hM_5.trans hM_28)))), (RdS.eqL hv_29 (by ((rw [show (sd % 47).toNat = 7 from by omega]; rfl)))), S⟩
        ·refine Qb (Qa (S_v E rfl (Qv E rfl rfl) rfl fun _ E1 => S_a E1 rfl rfl ?_))
         clear E a E1; intro a E
         refine Qc (T_n ?_)
         refine Qn E rfl (fun hc_30 => ?_) (fun hc_30 => ?_)
         ·refine Qb (Qa (S_m E rfl rfl ?_))
          clear E a; intro a E
          refine S_x (Qr E S rfl rfl rfl (WC h1 (by (omega))) (Hp.le.refl _) ?_)
          clear E a S; rintro a v_32 w M_31 hM_31 hv_32 S E
          replace hw := hw.le hM_31
          replace hc := hc.le hM_31
          replace h1 := h1.le hM_31
          replace hb_1 := hM_31.2 _ _ hb_1
          refine S_a E rfl rfl ?_
          clear E a; intro a E
          refine Qc (T_n (Qe (B_r ?_)))
          exact Qg E Tryz.results11 rfl ⟨_, rfl, M_31, (hM_2.trans (hM_3.trans (hM_4.trans (hM_5.trans hM_31)))), (RdS.eqL hv_32 (by ((rw [show (sd % 47).toNat = 8 from by omega]; rfl)))), S⟩
         ·refine Qb (Qa (S_v E rfl (Qv E rfl rfl) rfl fun _ E1 => S_a E1 rfl rfl ?_))
          clear E a E1; intro a E
          refine Qc (T_n ?_)
          refine Qn E rfl (fun hc_33 => ?_) (fun hc_33 => ?_)
          ·refine Qb (Qa (S_m E rfl rfl fun _ E1 => S_v E1 rfl (Ql E1 rfl (YZ _)) rfl fun _ E2 => S_v E2 rfl (Jj (off := 6) (part := [.int .i64 kk, .int .i64 kn]) E2 rfl (Tryz.isAgg30 _) (Tryz.sizeOf30 _) S.imm hb_1 rfl rfl) rfl ?_))
           clear E a E1 E2; intro a E
           refine S_x (Qr E S rfl rfl rfl (WT h1 (by omega) (by (omega))) (Hp.le.refl _) ?_)
           clear E a S; rintro a v_35 w M_34 hM_34 hv_35 S E
           replace hw := hw.le hM_34
           replace hc := hc.le hM_34
           replace h1 := h1.le hM_34
           replace hb_1 := hM_34.2 _ _ hb_1
           refine S_a E rfl rfl ?_
           clear E a; intro a E
           refine Qc (T_n (Qe (B_r ?_)))
           exact Qg E Tryz.results11 rfl ⟨_, rfl, M_34, (hM_2.trans (hM_3.trans (hM_4.trans (hM_5.trans hM_34)))), (RdS.eqL hv_35 (by ((rw [show (sd % 47).toNat = 9 from by omega]; rfl)))), S⟩
          ·refine Qb (Qa (S_v E rfl (Qv E rfl rfl) rfl fun _ E1 => S_a E1 rfl rfl ?_))
           clear E a E1; intro a E
           refine Qc (T_n ?_)
           refine Qn E rfl (fun hc_36 => ?_) (fun hc_36 => ?_)
           ·refine Qb (Qa (S_m E rfl rfl fun _ E1 => S_v E1 rfl (Ql E1 rfl (YZ _)) rfl fun _ E2 => S_v E2 rfl (Jj (off := 6) (part := [.int .i64 kk, .int .i64 kn]) E2 rfl (Tryz.isAgg30 _) (Tryz.sizeOf30 _) S.imm hb_1 rfl rfl) rfl ?_))
            clear E a E1 E2; intro a E
            refine S_x (Qr E S rfl rfl rfl (UI h1 (by omega) (by (omega))) (Hp.le.refl _) ?_)
            clear E a S; rintro a v_38 w M_37 hM_37 hv_38 S E
            replace hw := hw.le hM_37
            replace hc := hc.le hM_37
            replace h1 := h1.le hM_37
            replace hb_1 := hM_37.2 _ _ hb_1
            refine S_a E rfl rfl ?_
            clear E a; intro a E
            refine Qc (T_n (Qe (B_r ?_)))
            exact Qg E Tryz.results11 rfl ⟨_, rfl, M_37, (hM_2.trans (hM_3.trans (hM_4.trans (hM_5.trans hM_37)))), (RdS.eqL hv_38 (by ((rw [show (sd % 47).toNat = 10 from by omega]; rfl)))), S⟩
           ·refine Qb (Qa (S_v E rfl (Qv E rfl rfl) rfl fun _ E1 => S_a E1 rfl rfl ?_))
            clear E a E1; intro a E
            refine Qc (T_n ?_)
            refine Qn E rfl (fun hc_39 => ?_) (fun hc_39 => ?_)
            ·refine Qb (Qa (S_m E rfl rfl ?_))
             clear E a; intro a E
             refine S_x (Qr E S rfl rfl rfl (yT h1 (by (omega))) (Hp.le.refl _) ?_)
             clear E a S; rintro a v_41 w M_40 hM_40 hv_41 S E
             replace hw := hw.le hM_40
             replace hc := hc.le hM_40
             replace h1 := h1.le hM_40
             replace hb_1 := hM_40.2 _ _ hb_1
             refine S_a E rfl rfl ?_
             clear E a; intro a E
             refine Qc (T_n (Qe (B_r ?_)))
             exact Qg E Tryz.results11 rfl ⟨_, rfl, M_40, (hM_2.trans (hM_3.trans (hM_4.trans (hM_5.trans hM_40)))), (RdS.eqL hv_41 (by ((rw [show (sd % 47).toNat = 11 from by omega]; rfl)))), S⟩
            ·refine Qb (Qa (S_v E rfl (Qv E rfl rfl) rfl fun _ E1 => S_a E1 rfl rfl ?_))
             clear E a E1; intro a E
             refine Qc (T_n ?_)
             refine Qn E rfl (fun hc_42 => ?_) (fun hc_42 => ?_)
             ·refine Qb (Qa (S_m E rfl rfl fun _ E1 => S_m E1 rfl rfl ?_))
              clear E a E1; intro a E
              refine S_x (Qr E S rfl rfl rfl (impl_Take h1 (by (omega)) (by omega)) (Hp.le.refl _) ?_)
              clear E a S; rintro a _ w M_43 hM_43 ⟨v_44, rfl, hv_44⟩ S E
              replace hw := hw.le hM_43
              replace hc := hc.le hM_43
              replace h1 := h1.le hM_43
              replace hb_1 := hM_43.2 _ _ hb_1
              refine S_v E rfl (Qm E rfl rfl) rfl fun _ E1 => S_v E1 rfl (Qm E1 rfl rfl) rfl ?_
              clear E a E1; intro a E
              refine S_x (Qr E S rfl rfl rfl (JW hv_44) (Hp.le.refl _) ?_)
              clear E a S; rintro a v_46 w M_45 hM_45 hv_46 S E
              replace hw := hw.le hM_45
              replace hc := hc.le hM_45
              replace h1 := h1.le hM_45
              replace hb_1 := hM_45.2 _ _ hb_1
              refine S_a E rfl rfl ?_
              clear E a; intro a E
              refine Qc (T_n (Qe (B_r ?_)))
              exact Qg E Tryz.results11 rfl ⟨_, rfl, M_45, (hM_2.trans (hM_3.trans (hM_4.trans (hM_5.trans (hM_43.trans hM_45))))), (RdS.eqL hv_46 (by ((rw [show (sd % 47).toNat = 12 from by omega]; rfl)))), S⟩
             ·refine Qb (Qa (S_v E rfl (Qv E rfl rfl) rfl fun _ E1 => S_a E1 rfl rfl ?_))
              clear E a E1; intro a E
              refine Qc (T_n ?_)
              refine Qn E rfl (fun hc_47 => ?_) (fun hc_47 => ?_)
              ·refine Qb (Qa (S_m E rfl rfl fun _ E1 => S_m E1 rfl rfl ?_))
               clear E a E1; intro a E
               refine S_x (Qr E S rfl rfl rfl (impl_Drop h1 (by (omega)) (by omega)) (Hp.le.refl _) ?_)
               clear E a S; rintro a _ w M_48 hM_48 ⟨v_49, rfl, hv_49⟩ S E
               replace hw := hw.le hM_48
               replace hc := hc.le hM_48
               replace h1 := h1.le hM_48
               replace hb_1 := hM_48.2 _ _ hb_1
               refine S_v E rfl (Qm E rfl rfl) rfl fun _ E1 => S_v E1 rfl (Qm E1 rfl rfl) rfl ?_
               clear E a E1; intro a E
               refine S_x (Qr E S rfl rfl rfl (JW hv_49) (Hp.le.refl _) ?_)
               clear E a S; rintro a v_51 w M_50 hM_50 hv_51 S E
               replace hw := hw.le hM_50
               replace hc := hc.le hM_50
               replace h1 := h1.le hM_50
               replace hb_1 := hM_50.2 _ _ hb_1
               refine S_a E rfl rfl ?_
               clear E a; intro a E
               refine Qc (T_n (Qe (B_r ?_)))
               exact Qg E Tryz.results11 rfl ⟨_, rfl, M_50, (hM_2.trans (hM_3.trans (hM_4.trans (hM_5.trans (hM_48.trans hM_50))))), (RdS.eqL hv_51 (by ((rw [show (sd % 47).toNat = 13 from by omega]; rfl)))), S⟩
              ·refine Qb (Qa (S_v E rfl (Qv E rfl rfl) rfl fun _ E1 => S_a E1 rfl rfl ?_))
               clear E a E1; intro a E
               refine Qc (T_n ?_)
               refine Qn E rfl (fun hc_52 => ?_) (fun hc_52 => ?_)
               ·refine Qb (Qa (S_m E rfl rfl fun _ E1 => S_m E1 rfl rfl ?_))
                clear E a E1; intro a E
                refine S_x (Qr E S rfl rfl rfl (zM h1 (by (omega)) (by omega)) (Hp.le.refl _) ?_)
                clear E a S; rintro a _ w M_53 hM_53 ⟨v_54, rfl, hv_54⟩ S E
                replace hw := hw.le hM_53
                replace hc := hc.le hM_53
                replace h1 := h1.le hM_53
                replace hb_1 := hM_53.2 _ _ hb_1
                refine S_v E rfl (Qm E rfl rfl) rfl fun _ E1 => S_v E1 rfl (Qm E1 rfl rfl) rfl ?_
                clear E a E1; intro a E
                refine S_x (Qr E S rfl rfl rfl (JW hv_54) (Hp.le.refl _) ?_)
                clear E a S; rintro a v_56 w M_55 hM_55 hv_56 S E
                replace hw := hw.le hM_55
                replace hc := hc.le hM_55
                replace h1 := h1.le hM_55
                replace hb_1 := hM_55.2 _ _ hb_1
                refine S_a E rfl rfl ?_
                clear E a; intro a E
                refine Qc (T_n (Qe (B_r ?_)))
                exact Qg E Tryz.results11 rfl ⟨_, rfl, M_55, (hM_2.trans (hM_3.trans (hM_4.trans (hM_5.trans (hM_53.trans hM_55))))), (RdS.eqL hv_56 (by ((rw [show (sd % 47).toNat = 14 from by omega]; rfl)))), S⟩
               ·refine Qb (Qa (S_v E rfl (Qv E rfl rfl) rfl fun _ E1 => S_a E1 rfl rfl ?_))
                clear E a E1; intro a E
                refine Qc (T_n ?_)
                refine Qn E rfl (fun hc_57 => ?_) (fun hc_57 => ?_)
                ·refine Qb (Qa (S_m E rfl rfl fun _ E1 => S_v E1 rfl (Ql E1 rfl (Vt _)) rfl fun _ E2 => S_v E2 rfl (Jj (off := 3) (part := [.int .i64 pk, .int .i64 pn, wv]) E2 rfl (Tryz.isAgg27 _) (Tryz.sizeOf27 _) S.imm hb_1 rfl rfl) rfl ?_))
                 clear E a E1 E2; intro a E
                 refine S_x (Qr E S rfl rfl rfl (zI h1 hw (by omega) (by (omega))) (Hp.le.refl _) ?_)
                 clear E a S; rintro a v_59 w M_58 hM_58 hv_59 S E
                 replace hw := hw.le hM_58
                 replace hc := hc.le hM_58
                 replace h1 := h1.le hM_58
                 replace hb_1 := hM_58.2 _ _ hb_1
                 refine S_a E rfl rfl ?_
                 clear E a; intro a E
                 refine Qc (T_n (Qe (B_r ?_)))
                 exact Qg E Tryz.results11 rfl ⟨_, rfl, M_58, (hM_2.trans (hM_3.trans (hM_4.trans (hM_5.trans hM_58)))), (RdS.eqL hv_59 (by ((rw [show (sd % 47).toNat = 15 from by omega]; rfl)))), S⟩
                ·refine Qb (Qa (S_v E rfl (Qv E rfl rfl) rfl fun _ E1 => S_a E1 rfl rfl ?_))
                 clear E a E1; intro a E
                 refine Qc (T_n ?_)
                 refine Qn E rfl (fun hc_60 => ?_) (fun hc_60 => ?_)
                 ·refine Qb (Qa (S_m E rfl rfl fun _ E1 => S_v E1 rfl (Ql E1 rfl (Vt _)) rfl fun _ E2 => S_v E2 rfl (Jj (off := 3) (part := [.int .i64 pk, .int .i64 pn, wv]) E2 rfl (Tryz.isAgg27 _) (Tryz.sizeOf27 _) S.imm hb_1 rfl rfl) rfl ?_))
                  clear E a E1 E2; intro a E
                  refine S_x (Qr E S rfl rfl rfl (zL h1 hw (by omega) (by (omega))) (Hp.le.refl _) ?_)
                  clear E a S; rintro a v_62 w M_61 hM_61 hv_62 S E
                  replace hw := hw.le hM_61
                  replace hc := hc.le hM_61
                  replace h1 := h1.le hM_61
                  replace hb_1 := hM_61.2 _ _ hb_1
                  refine S_a E rfl rfl ?_
                  clear E a; intro a E
                  refine Qc (T_n (Qe (B_r ?_)))
                  exact Qg E Tryz.results11 rfl ⟨_, rfl, M_61, (hM_2.trans (hM_3.trans (hM_4.trans (hM_5.trans hM_61)))), (RdS.eqL hv_62 (by ((rw [show (sd % 47).toNat = 16 from by omega]; rfl)))), S⟩
                 ·refine Qb (Qa (S_v E rfl (Qv E rfl rfl) rfl fun _ E1 => S_a E1 rfl rfl ?_))
                  clear E a E1; intro a E
                  refine Qc (T_n ?_)
                  refine Qn E rfl (fun hc_63 => ?_) (fun hc_63 => ?_)
                  ·refine Qb (Qa (S_m E rfl rfl fun _ E1 => S_v E1 rfl (Ql E1 rfl (Vt _)) rfl fun _ E2 => S_v E2 rfl (Jj (off := 3) (part := [.int .i64 pk, .int .i64 pn, wv]) E2 rfl (Tryz.isAgg27 _) (Tryz.sizeOf27 _) S.imm hb_1 rfl rfl) rfl ?_))
                   clear E a E1 E2; intro a E
                   refine S_x (Qr E S rfl rfl rfl (WD h1 hw (by omega) (by (omega))) (Hp.le.refl _) ?_)
                   clear E a S; rintro a v_65 w M_64 hM_64 hv_65 S E
                   replace hw := hw.le hM_64
                   replace hc := hc.le hM_64
                   replace h1 := h1.le hM_64
                   replace hb_1 := hM_64.2 _ _ hb_1
                   refine S_a E rfl rfl ?_
                   clear E a; intro a E
                   refine Qc (T_n (Qe (B_r ?_)))
                   exact Qg E Tryz.results11 rfl ⟨_, rfl, M_64, (hM_2.trans (hM_3.trans (hM_4.trans (hM_5.trans hM_64)))), (RdS.eqL hv_65 (by ((rw [show (sd % 47).toNat = 17 from by omega]; rfl)))), S⟩
                  ·refine Qb (Qa (S_v E rfl (Qv E rfl rfl) rfl fun _ E1 => S_a E1 rfl rfl ?_))
                   clear E a E1; intro a E
                   refine Qc (T_n ?_)
                   refine Qn E rfl (fun hc_66 => ?_) (fun hc_66 => ?_)
                   ·refine Qb (Qa (S_m E rfl rfl fun _ E1 => S_m E1 rfl rfl fun _ E2 => S_v E2 rfl (Ql E2 rfl (Vt _)) rfl fun _ E3 => S_v E3 rfl (Jj (off := 3) (part := [.int .i64 pk, .int .i64 pn, wv]) E3 rfl (Tryz.isAgg27 _) (Tryz.sizeOf27 _) S.imm hb_1 rfl rfl) rfl ?_))
                    clear E a E1 E2 E3; intro a E
                    refine S_x (Qr E S rfl rfl rfl (qC h1 hw (by omega) (by (omega)) (by omega)) (Hp.le.refl _) ?_)
                    clear E a S; rintro a _ w M_67 hM_67 ⟨v_68, rfl, hv_68⟩ S E
                    replace hw := hw.le hM_67
                    replace hc := hc.le hM_67
                    replace h1 := h1.le hM_67
                    replace hb_1 := hM_67.2 _ _ hb_1
                    refine S_v E rfl (Qm E rfl rfl) rfl fun _ E1 => S_v E1 rfl (Qm E1 rfl rfl) rfl ?_
                    clear E a E1; intro a E
                    refine S_x (Qr E S rfl rfl rfl (JW hv_68) (Hp.le.refl _) ?_)
                    clear E a S; rintro a v_70 w M_69 hM_69 hv_70 S E
                    replace hw := hw.le hM_69
                    replace hc := hc.le hM_69
                    replace h1 := h1.le hM_69
                    replace hb_1 := hM_69.2 _ _ hb_1
                    refine S_a E rfl rfl ?_
                    clear E a; intro a E
                    refine Qc (T_n (Qe (B_r ?_)))
                    exact Qg E Tryz.results11 rfl ⟨_, rfl, M_69, (hM_2.trans (hM_3.trans (hM_4.trans (hM_5.trans (hM_67.trans hM_69))))), (RdS.eqL hv_70 (by ((rw [show (sd % 47).toNat = 18 from by omega]; rfl)))), S⟩
                   ·refine Qb (Qa (S_v E rfl (Qv E rfl rfl) rfl fun _ E1 => S_a E1 rfl rfl ?_))
                    clear E a E1; intro a E
                    refine Qc (T_n ?_)
                    refine Qn E rfl (fun hc_71 => ?_) (fun hc_71 => ?_)
                    ·refine Qb (Qa (S_m E rfl rfl fun _ E1 => S_m E1 rfl rfl fun _ E2 => S_m E2 rfl rfl ?_))
                     clear E a E1 E2; intro a E
                     refine S_x (Qy (ys := [(((sn % 12).toNat : Nat) : Int), (((sm % 12).toNat : Nat) : Int)]) E S rfl T22 rfl rfl rfl ?_)
                     clear E a S; rintro a w v_72 E S
                     have S0 := S; clear S
                     obtain ⟨M_73, hM_73, hz_74, S⟩ := S0.freezeI (by ((simp; done)))
                     clear S0
                     replace hw := hw.le hM_73
                     replace hc := hc.le hM_73
                     replace h1 := h1.le hM_73
                     replace hb_1 := hM_73.2 _ _ hb_1
                     refine S_x (Qr E S rfl rfl rfl (qz h1 hz_74 (by (omega))) (Hp.le.refl _) ?_)
                     clear E a S; rintro a v_76 w M_75 hM_75 hv_76 S E
                     replace hw := hw.le hM_75
                     replace hc := hc.le hM_75
                     replace h1 := h1.le hM_75
                     replace hb_1 := hM_75.2 _ _ hb_1
                     refine S_a E rfl rfl ?_
                     clear E a; intro a E
                     refine Qc (T_n (Qe (B_r ?_)))
                     exact Qg E Tryz.results11 rfl ⟨_, rfl, M_75, (hM_2.trans (hM_3.trans (hM_4.trans (hM_5.trans (hM_73.trans hM_75))))), (RdS.eqL hv_76 (by ((rw [show (sd % 47).toNat = 19 from by omega]; rfl)))), S⟩
                    ·refine Qb (Qa (S_v E rfl (Qv E rfl rfl) rfl fun _ E1 => S_a E1 rfl rfl ?_))
                     clear E a E1; intro a E
                     refine Qc (T_n ?_)
                     refine Qn E rfl (fun hc_77 => ?_) (fun hc_77 => ?_)
                     ·refine Qb (Qa (S_m E rfl rfl fun _ E1 => S_m E1 rfl rfl fun _ E2 => S_m E2 rfl rfl ?_))
                      clear E a E1 E2; intro a E
                      refine S_x (Qr E S rfl rfl rfl (impl_Slice h1 (by (omega)) (by omega) (by omega)) (Hp.le.refl _) ?_)
                      clear E a S; rintro a v_79 w M_78 hM_78 hv_79 S E
                      replace hw := hw.le hM_78
                      replace hc := hc.le hM_78
                      replace h1 := h1.le hM_78
                      replace hb_1 := hM_78.2 _ _ hb_1
                      refine S_a E rfl rfl ?_
                      clear E a; intro a E
                      refine Qc (T_n (Qe (B_r ?_)))
                      exact Qg E Tryz.results11 rfl ⟨_, rfl, M_78, (hM_2.trans (hM_3.trans (hM_4.trans (hM_5.trans hM_78)))), (RdS.eqL hv_79 (by ((rw [show (sd % 47).toNat = 20 from by omega]; rfl)))), S⟩
                     ·refine Qb (Qa (S_v E rfl (Qv E rfl rfl) rfl fun _ E1 => S_a E1 rfl rfl ?_))
                      clear E a E1; intro a E
                      refine Qc (T_n ?_)
                      refine Qn E rfl (fun hc_80 => ?_) (fun hc_80 => ?_)
                      ·refine Qb (Qa (S_m E rfl rfl fun _ E1 => S_m E1 rfl rfl fun _ E2 => S_m E2 rfl rfl fun _ E3 => S_v E3 rfl (Zf (m := (((sm % 12).toNat : Nat) : Int)) E3 rfl Tryz.underlying3 Tryz.underlying54 (by (rw [Jh]; omega))) rfl ?_))
                       clear E a E1 E2 E3; intro a E
                       refine S_x (Qr E S rfl rfl rfl (impl_Subset h1 (by omega) (by omega) (by (omega))) (Hp.le.refl _) ?_)
                       clear E a S; rintro a v_82 w M_81 hM_81 hv_82 S E
                       replace hw := hw.le hM_81
                       replace hc := hc.le hM_81
                       replace h1 := h1.le hM_81
                       replace hb_1 := hM_81.2 _ _ hb_1
                       refine S_a E rfl rfl ?_
                       clear E a; intro a E
                       refine Qc (T_n (Qe (B_r ?_)))
                       exact Qg E Tryz.results11 rfl ⟨_, rfl, M_81, (hM_2.trans (hM_3.trans (hM_4.trans (hM_5.trans hM_81)))), (RdS.eqL hv_82 (by ((rw [show (sd % 47).toNat = 21 from by omega]; rfl)))), S⟩
                      ·refine Qb (Qa (S_v E rfl (Qv E rfl rfl) rfl fun _ E1 => S_a E1 rfl rfl ?_))
                       clear E a E1; intro a E
                       refine Qc (T_n ?_)
                       refine Qn E rfl (fun hc_83 => ?_) (fun hc_83 => ?_)
                       ·refine Qb (Qa (S_m E rfl rfl fun _ E1 => S_v E1 rfl (Ql E1 rfl (Wj _)) rfl fun _ E2 => S_v E2 rfl (Qj E2 rfl Tryz.isAgg3 S.imm (Qo hb_1 rfl)) rfl fun _ E3 => S_v E3 rfl (Ql E3 rfl (Wi _)) rfl fun _ E4 => S_v E4 rfl (Qj E4 rfl Tryz.isAgg3 S.imm (Qo hb_1 rfl)) rfl fun _ E5 => S_m E5 rfl rfl ?_))
                        clear E a E1 E2 E3 E4 E5; intro a E
                        refine S_x (Qr E S rfl rfl rfl (yU h1 (by (omega))) (Hp.le.refl _) ?_)
                        clear E a S; rintro a v_85 w M_84 hM_84 hv_85 S E
                        replace hw := hw.le hM_84
                        replace hc := hc.le hM_84
                        replace h1 := h1.le hM_84
                        replace hb_1 := hM_84.2 _ _ hb_1
                        refine S_a E rfl rfl ?_
                        clear E a; intro a E
                        refine Qc (T_n (Qe (B_r ?_)))
                        exact Qg E Tryz.results11 rfl ⟨_, rfl, M_84, (hM_2.trans (hM_3.trans (hM_4.trans (hM_5.trans hM_84)))), (RdS.eqL hv_85 (by ((rw [show (sd % 47).toNat = 22 from by omega]; rfl)))), S⟩
                       ·refine Qb (Qa (S_v E rfl (Qv E rfl rfl) rfl fun _ E1 => S_a E1 rfl rfl ?_))
                        clear E a E1; intro a E
                        refine Qc (T_n ?_)
                        refine Qn E rfl (fun hc_86 => ?_) (fun hc_86 => ?_)
                        ·refine Qb (Qa (S_m E rfl rfl fun _ E1 => S_v E1 rfl (Ql E1 rfl (Wj _)) rfl fun _ E2 => S_v E2 rfl (Qj E2 rfl Tryz.isAgg3 S.imm (Qo hb_1 rfl)) rfl fun _ E3 => S_v E3 rfl (Ql E3 rfl (Wi _)) rfl fun _ E4 => S_v E4 rfl (Qj E4 rfl Tryz.isAgg3 S.imm (Qo hb_1 rfl)) rfl ?_))
                         clear E a E1 E2 E3 E4; intro a E
                         refine S_x (Qr E S rfl rfl rfl (qD h1 (by (omega))) (Hp.le.refl _) ?_)
                         clear E a S; rintro a v_88 w M_87 hM_87 hv_88 S E
                         replace hw := hw.le hM_87
                         replace hc := hc.le hM_87
                         replace h1 := h1.le hM_87
                         replace hb_1 := hM_87.2 _ _ hb_1
                         refine S_a E rfl rfl ?_
                         clear E a; intro a E
                         refine Qc (T_n (Qe (B_r ?_)))
                         exact Qg E Tryz.results11 rfl ⟨_, rfl, M_87, (hM_2.trans (hM_3.trans (hM_4.trans (hM_5.trans hM_87)))), (RdS.eqL hv_88 (by ((rw [show (sd % 47).toNat = 23 from by omega]; rfl)))), S⟩
                        ·refine Qb (Qa (S_v E rfl (QA E rfl (Tryz.isAgg32 _) (Tryz.sizeOf32 _) S.imm hb_1) rfl fun _ E1 => S_m E1 rfl rfl fun _ E2 => S_m E2 rfl rfl fun _ E3 => S_m E3 rfl rfl ?_))
                         clear E a E1 E2 E3; intro a E
                         refine S_x (Qr E S rfl rfl rfl (jA hw hc h1 (by assumption) (by assumption) (by assumption) (by assumption) (by assumption) (by assumption) (by assumption) (by assumption) (by assumption) (by assumption) (by omega)) (Hp.le.refl _) ?_)
                         clear E a S; rintro a v_90 w M_89 hM_89 hv_90 S E
                         refine S_a E rfl rfl ?_
                         clear E a; intro a E
                         refine Qc (T_n (Qe (B_r ?_)))
                         exact Qg E Tryz.results11 rfl ⟨_, rfl, M_89, (hM_2.trans (hM_3.trans (hM_4.trans (hM_5.trans hM_89)))), hv_90, S⟩
theorem laws_eq {M : Hp} {v0 v1 : Value} {l0 l1 : List Int} (h0 : RdI M v0 l0) (h1 : RdI M v1 l1) :
  Pu Tryz.prog (.func (.func 10) #[] #[]) M [v0, v1] (fun r M' => r = .bool (decide (l0 = l1))) := by
 refine Qk Tryz.func10 rfl Tryz.ntmps10 rfl Tryz.call10 ?_
 intro a w M1 H hM1 S E
 replace h0 := h0.le hM1
 replace h1 := h1.le hM1
 have b0 := h0.bound
 have b1 := h1.bound
 refine Qb (Qa (S_a E rfl rfl fun _ E1 => Qc (T_n (Qb (Qb (Qa (S_m E1 rfl rfl fun _ E2 => S_v E2 rfl (Qp E2 rfl T22 h0.len) rfl fun _ E3 => S_m E3 rfl rfl fun _ E4 => S_v E4 rfl (Qp E4 rfl T22 h1.len) rfl fun _ E5 => S_v E5 rfl (Yv E5 rfl rfl) rfl ?_)))))))
 clear E a E1 E2 E3 E4 E5; intro a E
 refine Qc (T_n ?_)
 refine Qn E rfl (fun hc_1 => ?_) (fun hc_1 => ?_)
 ·refine Qb (Qa (S_a E rfl rfl ?_))
  clear E a; intro a E
  refine Qc (T_n (Qe ?_))
  refine T_r ?_
  exact Qg E Tryz.results10 rfl ⟨_, rfl, M1, (Hp.le.refl _), (bF (by ((try clear S); (try clear E); first | assumption | omega | rfl | (simp; done) | (simp_all; done) | (simp [List.take_add_one, *]; done) | grind [List.take_add_one]))), S⟩
 ·refine Qh (T_n (Qb (Qb (Qa (S_m E rfl rfl fun _ E1 => S_v E1 rfl (Qp E1 rfl T22 h0.len) rfl fun _ E2 => S_m E2 rfl rfl ?_)))))
  clear E a E1 E2; intro a E
  refine Qc (T_n (Qi ?_))
  refine Qx (γ := Nat) (fun (k : Nat) a w => ∃ (M_2 : Hp), Hp.le M1 M_2 ∧ St w M_2 (H) ∧ Env a 26 [] [(0, v0), (1, v1), (12, .int .i64 (((l0).length : Nat) : Int)), (13, .int .i64 ((k : Nat) : Int))] ∧ (k ≤ (l0).length) ∧ (l0.length = l1.length) ∧ (l0.take k = l1.take k)) (fun k => ((l0).length) - k) 0 ⟨M1, Hp.le.refl _, S, E.keep ⟨rfl, rfl, rfl, rfl, trivial⟩, by ((try clear S); (try clear E); first | assumption | omega | rfl | (simp; done) | (simp_all; done) | (simp [List.take_add_one, *]; done) | grind [List.take_add_one]), by ((try clear S); (try clear E); first | assumption | omega | rfl | (simp; done) | (simp_all; done) | (simp [List.take_add_one, *]; done) | grind [List.take_add_one]), by ((try clear S); (try clear E); first | assumption | omega | rfl | (simp; done) | (simp_all; done) | (simp [List.take_add_one, *]; done) | grind [List.take_add_one])⟩ ?_
  try clear E
  try clear S
  try clear a
  try clear w
  rintro k a w ⟨M_2, hM_2, S, E, hL0_0, hL0_1, hL0_2⟩
  replace h0 := h0.le hM_2
  replace h1 := h1.le hM_2
  refine Qb (Qa (S_v E rfl (QG E rfl rfl) rfl ?_))
  clear E a; intro a E
  refine Qc (T_n (Qb ?_))
  refine Qn E rfl (fun hc_3 => ?_) (fun hc_3 => ?_)
  ·refine Qh (T_n (Qb (Qi (Qb (Qa (S_m E rfl rfl fun _ E1 => S_a E1 rfl rfl ?_))))))
   clear E a E1; intro a E
   refine Qc (T_n (Qb ?_))
   replace S := S.mono_heap (w' := World.drew _) rfl
   refine Jx (C := fun x w => agree M_2 w) (bf := (fun i => [])) [0, 1, 2, 3, 4, 5, 6, 7, 8] [0, 1, 2, 3, 4, 5, 6, 7, 8] Tryz.mixed (by kernel_rfl) (fun x hq => S.imm) ?_
   refine D_v E rfl rfl rfl (fun w hC => (Qu E rfl)) fun _ E1 => D_v E1 rfl rfl rfl (fun w hC => (Qu E1 rfl)) ?_
   clear E a E1; intro a E
   obtain ⟨x_4, hx_4⟩ : ∃ x, (l0)[k]? = some x := ⟨_, List.getElem?_eq_getElem (by first | omega | (simp; done) | (simp; omega) | (simp_all; omega))⟩
   obtain ⟨p_5, hp_5, qp_5⟩ := h0.at hx_4
   refine D_v E rfl rfl rfl (fun w hC => (QB E rfl rfl T22 hp_5 rfl)) fun _ E1 => D_v E1 rfl rfl rfl (fun w hC => (Qj E1 rfl Tryz.isAgg3 hC qp_5)) fun _ E2 => D_v E2 rfl rfl rfl (fun w hC => (Qu E2 rfl)) fun _ E3 => D_v E3 rfl rfl rfl (fun w hC => (Qu E3 rfl)) ?_
   clear E a E1 E2 E3; intro a E
   obtain ⟨x_6, hx_6⟩ : ∃ x, (l1)[k]? = some x := ⟨_, List.getElem?_eq_getElem (by first | omega | (simp; done) | (simp; omega) | (simp_all; omega))⟩
   obtain ⟨p_7, hp_7, qp_7⟩ := h1.at hx_6
   refine D_v E rfl rfl rfl (fun w hC => (QB E rfl rfl T22 hp_7 rfl)) fun _ E1 => D_v E1 rfl rfl rfl (fun w hC => (Qj E1 rfl Tryz.isAgg3 hC qp_7)) fun _ E2 => D_v E2 rfl rfl rfl (fun w hC => (Yv E2 rfl rfl)) ?_
   clear E a E1 E2; intro a E
   refine Ze (Zd ?_)
   refine T_n ?_
   refine Qn E rfl (fun hc_8 => ?_) (fun hc_8 => ?_)
   ·refine Qb (Qa (S_a E rfl rfl ?_))
    clear E a; intro a E
    refine Qc (T_n (Qe (B_r ?_)))
    refine T_r ?_
    refine T_r ?_
    refine B_r ?_
    refine T_r ?_
    exact Qg E Tryz.results10 rfl ⟨_, rfl, M_2, hM_2, (bF (by ((try clear S); (try clear E); first | assumption | omega | rfl | (simp; done) | (simp_all; done) | (simp [List.take_add_one, *]; done) | grind [List.take_add_one]))), S⟩
   ·refine Qh (B_n (T_n (Qa (S_v E rfl (Qq (m := ((k + 1 : Nat) : Int)) E rfl rfl (by omega) (by omega)) rfl fun _ E1 => S_m E1 rfl rfl ?_))))
    clear E a E1; intro a E
    refine Qc (T_n ?_)
    exact ⟨k + 1, ⟨M_2, hM_2, S, E.keep ⟨rfl, rfl, rfl, rfl, trivial⟩, by ((try clear S); (try clear E); first | assumption | omega | rfl | (simp; done) | (simp_all; done) | (simp [List.take_add_one, *]; done) | grind [List.take_add_one]), by ((try clear S); (try clear E); first | assumption | omega | rfl | (simp; done) | (simp_all; done) | (simp [List.take_add_one, *]; done) | grind [List.take_add_one]), by ((try clear S); (try clear E); first | assumption | omega | rfl | (simp; done) | (simp_all; done) | (simp [List.take_add_one, *]; done) | grind [List.take_add_one])⟩, by omega⟩
  ·refine Qt (T_x (T_x (B_x (T_n (Qb (Qa (S_a E rfl rfl ?_)))))))
   clear E a; intro a E
   refine Qc (T_n (Qe ?_))
   exact Qg E Tryz.results10 rfl ⟨_, rfl, M_2, hM_2, (bT (by ((try clear S); (try clear E); first | assumption | omega | rfl | (simp; done) | (simp_all; done) | (simp [List.take_add_one, *]; done) | grind [List.take_add_one]))), S⟩
theorem jB {M : Hp} {v0 : Value} {l0 : List Int} (h0 : RdI M v0 l0){v1 : Value} {l1 : List TSt} (h1 : RdS 9 RTS M v1 l1)  (hr0 : (∀ x ∈ l0, -9223372036854775808 ≤ x ∧ x ≤ 9223372036854775807)) :
  PuC Tryz.prog 3 M [v0, v1] (fun r M' => r = .bool true) := by
 refine YJ Tryz.func3 rfl Tryz.ntmps3 rfl ?_
 intro a w M1 H hM1 S E
 replace h0 := h0.le hM1
 replace h1 := h1.le JJ hM1
 have b0 := h0.bound
 have b1 := h1.bound
 refine Qb (Qa (S_a E rfl rfl fun _ E1 => Qc (T_n (Qb (Qb (Qa (S_m E1 rfl rfl fun _ E2 => S_v E2 rfl (Qp E2 rfl T22 h0.len) rfl fun _ E3 => S_v E3 rfl (JT E3 rfl rfl) rfl fun _ E4 => S_m E4 rfl rfl ?_)))))))
 clear E a E1 E2 E3 E4; intro a E
 refine QK (decide (2147483647 < (((l0).length : Nat) : Int))) (fun hc_1 => ?_) (fun hc_1 => ?_)
 ·replace E := E.val (t := 10) rfl hc_1
  replace E := E.val (t := 11) rfl hc_1
  replace hc_1 := of_decide_eq_true hc_1
  refine Qd E rfl rfl rfl rfl fun a E => ?_
  refine Qd E rfl rfl rfl rfl fun a E => ?_
  refine Qd E rfl rfl rfl rfl fun a E => ?_
  refine S_v E rfl (QZ E rfl rfl) rfl ?_
  clear E a; intro a E
  refine Qc (T_n ?_)
  refine ZK E rfl rfl ?_
  refine Qb (Qa (S_a E rfl rfl ?_))
  clear E a; intro a E
  refine Qc (T_n (Qe ?_))
  refine T_r ?_
  exact Qg E Tryz.results3 rfl ⟨_, rfl, M1, (Hp.le.refl _), rfl, S⟩
 ·replace E := E.val (t := 10) rfl hc_1
  replace E := E.val (t := 11) rfl hc_1
  replace hc_1 := of_decide_eq_false hc_1
  refine Qf E rfl rfl ?_
  refine S_m E rfl rfl ?_
  clear E a; intro a E
  refine Qf E rfl rfl ?_
  refine S_x (Qr E S rfl rfl rfl (yL h1) (Hp.le.refl _) ?_)
  clear E a S; rintro a _ w M_2 hM_2 rfl S E
  replace h0 := h0.le hM_2
  replace h1 := h1.le JJ hM_2
  refine Qf E rfl rfl ?_
  refine S_v E rfl (Zk E rfl) rfl fun _ E1 => S_v E1 rfl (QQ E1 rfl rfl) rfl ?_
  clear E a E1; intro a E
  refine Qc (T_n ?_)
  refine QL E rfl (fun hc_3 => ?_) (fun hc_3 => ?_)
  ·refine Qb ?_
   refine Qa (S_a E rfl rfl ?_)
   clear E a; intro a E
   refine Qc (T_n (Qe ?_))
   refine T_r ?_
   exact Qg E Tryz.results3 rfl ⟨_, rfl, M_2, hM_2, rfl, S⟩
  ·refine Qh ?_
   refine T_n (Qb (Qb (Qa ?_)))
   refine S_x (Qy (ys := [1]) E S rfl T22 rfl rfl rfl ?_)
   clear E a S; rintro a w v_4 E S
   refine S_v E rfl (VE (u := .agg #[.int .i64 4, .int .i64 0, .slice none 0 0]) (vs := [.int .i64 4]) E rfl (fun w => FB27_0_i 4 w)) rfl ?_
   clear E a; intro a E
   have S0 := S; clear S
   obtain ⟨M_5, hM_5, hz_6, S⟩ := S0.freezeI (by ((simp; done)))
   clear S0
   replace h0 := h0.le hM_5
   replace h1 := h1.le JJ hM_5
   refine S_x (Qr E S rfl rfl rfl (qn hz_6 (RdS.nil _) (by omega) (by ((simp; done)))) (Hp.le.refl _) ?_)
   clear E a S; rintro a v_8 w M_7 hM_7 hv_8 S E
   replace h0 := h0.le hM_7
   replace h1 := h1.le JJ hM_7
   refine S_v E rfl (Qp E rfl T22 hv_8.len) rfl fun _ E1 => S_v E1 rfl (Yv E1 rfl rfl) rfl ?_
   clear E a E1; intro a E
   refine Qc (T_n ?_)
   have hc_9 : (decide ((((QP (QF 4 0 ([] : List Int)) 0 [1]).length : Nat) : Int) ≠ 1)) = false := by (clear S E; first | rfl | decide | (simp; done) | (simp_all; done))
   refine Ja E rfl hc_9 ?_
   refine Qh (T_n (Qb (Qb (Qa (S_m E rfl rfl fun _ E1 => S_m E1 rfl rfl ?_)))))
   clear E a E1; intro a E
   refine S_x (Qr E S rfl rfl rfl (laws_light h0 h1) (Hp.le.refl _) ?_)
   clear E a S; rintro a _ w M_10 hM_10 rfl S E
   replace h0 := h0.le hM_10
   replace h1 := h1.le JJ hM_10
   refine S_v E rfl (Zk E rfl) rfl ?_
   clear E a; intro a E
   refine Qc (T_n ?_)
   refine QL E rfl (fun hc_11 => ?_) (fun hc_11 => ?_)
   ·refine Qb ?_
    refine Qa (S_a E rfl rfl ?_)
    clear E a; intro a E
    refine Qc (T_n (Qe ?_))
    refine T_r ?_
    exact Qg E Tryz.results3 rfl ⟨_, rfl, M_10, (hM_2.trans (hM_5.trans (hM_7.trans hM_10))), rfl, S⟩
   ·have hli := lit (by assumption)
    refine Qh (T_n (Qb (Qb (Qa (S_m E rfl rfl fun _ E1 => S_v E1 rfl (Qp E1 rfl T23 h1.len) rfl fun _ E2 => S_m E2 rfl rfl ?_)))))
    clear E a E1 E2; intro a E
    refine Qc (T_n (Qi ?_))
    refine Qx (γ := Nat) (fun (k : Nat) a w => ∃ (M_12 : Hp) (u0 : Value), Hp.le M_10 M_12 ∧ St w M_12 (H) ∧ Env a 45 [] [(0, u0), (25, v1), (26, .int .i64 (((l1).length : Nat) : Int)), (27, .int .i64 ((k : Nat) : Int))] ∧ (k ≤ (l1).length) ∧ (Rng (jo (l1.take k) l0)) ∧ RdI M_12 u0 (jo (l1.take k) l0)) (fun k => ((l1).length) - k) 0 ⟨M_10, _, Hp.le.refl _, S, E.keep ⟨rfl, rfl, rfl, rfl, trivial⟩, by (omega), (by exact hr0), (qJ h0 (by rfl))⟩ ?_
    try clear E
    try clear S
    try clear a
    try clear w
    rintro k a w ⟨M_12, u0, hM_12, S, E, hL0_0, hL0_1, hs0_0⟩
    replace h1 := h1.le JJ hM_12
    refine Qb (Qa (S_v E rfl (QG E rfl rfl) rfl ?_))
    clear E a; intro a E
    refine Qc (T_n (Qb ?_))
    refine Qn E rfl (fun hc_13 => ?_) (fun hc_13 => ?_)
    ·refine Qh (T_n (Qb (Qi (Qb (Qa ?_)))))
     obtain ⟨x_14, hx_14⟩ : ∃ x, (l1)[k]? = some x := ⟨_, List.getElem?_eq_getElem (by omega)⟩
     obtain ⟨p_15, w_16, u_17, hp_15, qp_15, hw_16, hu_17, gb_18⟩ := RdTS.at h1 hx_14
     have hrcu_17 := gb_18.2.2.2.2.2
     replace gb_18 := And.intro gb_18.1 (And.intro gb_18.2.1 (And.intro gb_18.2.2.1 (And.intro gb_18.2.2.2.1 gb_18.2.2.2.2.1)))
     have bu_17 := hu_17.bound
     have bw_16 := hw_16.bound
     refine S_v E rfl (QB E rfl rfl T23 hp_15 rfl) rfl fun _ E1 => S_v E1 rfl (vk (cs := [.int .i64 x_14.1, .int .i64 x_14.2.1, .int .i64 x_14.2.2.1, .int .i64 x_14.2.2.2.1, .int .i64 x_14.2.2.2.2.1, w_16, .int .i64 x_14.2.2.2.2.2.2.1, .int .i64 x_14.2.2.2.2.2.2.2.1, u_17]) E1 rfl (Tryz.isAgg32 _) (Tryz.sizeOf32 _) S.imm qp_15) rfl ?_
     clear E a E1; intro a E
     refine S_x (Jp (cs := #[.int .i64 0, .int .i64 0, .int .i64 0, .int .i64 0, .int .i64 0, .slice none 0 0, .int .i64 0, .int .i64 0, .slice none 0 0]) E S rfl Tryz.zeroValue32 rfl ?_)
     clear E a S; rintro a w b_19 E S
     refine Zr (Jz (us := [.int .i64 x_14.1, .int .i64 x_14.2.1, .int .i64 x_14.2.2.1, .int .i64 x_14.2.2.2.1, .int .i64 x_14.2.2.2.2.1, w_16, .int .i64 x_14.2.2.2.2.2.2.1, .int .i64 x_14.2.2.2.2.2.2.2.1, u_17]) E S rfl rfl (Tryz.sizeOf32 _) rfl (by intro u hu; simp only [List.mem_cons, List.not_mem_nil, or_false] at hu; rcases hu with rfl | rfl | rfl | rfl | rfl | rfl | rfl | rfl | rfl <;> first | exact rfl | exact rfl | exact rfl | exact rfl | exact rfl | exact (RdS.one' hw_16) | exact rfl | exact rfl | exact (RdS.one' hu_17)) ?_)
     clear E a S; rintro a w E S
     replace S : St w M_12 (blk b_19 (.cells #[.int .i64 x_14.1, .int .i64 x_14.2.1, .int .i64 x_14.2.2.1, .int .i64 x_14.2.2.2.1, .int .i64 x_14.2.2.2.2.1, w_16, .int .i64 x_14.2.2.2.2.2.2.1, .int .i64 x_14.2.2.2.2.2.2.2.1, u_17] 32) :: _) := S
     have S0 := S; clear S
     obtain ⟨M_20, hM_20, hb_21, S⟩ := S0.freezeB
     clear S0
     replace hs0_0 := hs0_0.le hM_20
     replace hw_16 := hw_16.le hM_20
     replace hu_17 := hu_17.le hM_20
     refine Qc (T_n (Qb (Qb (Qa (S_m E rfl rfl fun _ E1 => S_v E1 rfl (Qp E1 rfl T22 hs0_0.len) rfl fun _ E2 => S_v E2 rfl (JT E2 rfl rfl) rfl ?_)))))
     clear E a E1 E2; intro a E
     refine Qc (T_n ?_)
     refine Qn E rfl (fun hc_22 => ?_) (fun hc_22 => ?_)
     ·refine Qb (Qa (S_a E rfl rfl ?_))
      clear E a; intro a E
      refine Qc (T_n (Qe ?_))
      refine T_r ?_
      refine B_r ?_
      refine T_r ?_
      refine T_r ?_
      refine B_r ?_
      refine T_r ?_
      exact Qg E Tryz.results3 rfl ⟨_, rfl, M_20, (hM_2.trans (hM_5.trans (hM_7.trans (hM_10.trans (hM_12.trans hM_20))))), rfl, S⟩
     ·refine Qh (T_n (Qb (Qa ?_)))
      have hls := hli.2 _ (List.mem_of_getElem? (by assumption))
      have hr0 := hL0_1
      refine S_v E rfl (QA E rfl (Tryz.isAgg32 _) (Tryz.sizeOf32 _) S.imm hb_21) rfl fun _ E1 => S_m E1 rfl rfl ?_
      clear E a E1; intro a E
      refine S_x (Qr E S rfl rfl rfl (laws_due hw_16 hu_17 hs0_0 (by omega) (by omega) (by omega) (by omega) (by omega) (by omega) (by omega) (by omega) (by assumption) (by assumption)) (Hp.le.refl _) ?_)
      clear E a S; rintro a v_24 w M_23 hM_23 hv_24 S E
      replace hs0_0 := hs0_0.le hM_23
      replace hw_16 := hw_16.le hM_23
      replace hu_17 := hu_17.le hM_23
      replace hb_21 := hM_23.2 _ _ hb_21
      refine S_a E rfl rfl fun _ E1 => Qc (T_n (Qb (Qb (Qa (S_v E1 rfl (QA E1 rfl (Tryz.isAgg32 _) (Tryz.sizeOf32 _) S.imm hb_21) rfl fun _ E2 => S_m E2 rfl rfl ?_)))))
      clear E a E1 E2; intro a E
      refine S_x (Qr E S rfl rfl rfl (laws_play hw_16 hu_17 hs0_0 (by omega) (by omega) (by omega) (by omega) (by omega) (by omega) (by omega) (by omega)) (Hp.le.refl _) ?_)
      clear E a S; rintro a v_26 w M_25 hM_25 hv_26 S E
      replace hv_24 := hv_24.le hM_25
      refine S_m E rfl rfl ?_
      clear E a; intro a E
      refine S_x (Qr E S rfl rfl rfl (laws_eq hv_26 hv_24) (Hp.le.refl _) ?_)
      clear E a S; rintro a _ w M_27 hM_27 rfl S E
      replace hv_24 := hv_24.le hM_27
      refine S_v E rfl (Zk E rfl) rfl ?_
      clear E a; intro a E
      refine Qc (T_n ?_)
      have hc_28 : (!(decide (Jo (x_14.1 % 47).toNat ((x_14.2.1 % 12).toNat) ((x_14.2.2.1 % 12).toNat) x_14.2.1 x_14.2.2.1 x_14.2.2.2.1 x_14.2.2.2.2.1 x_14.2.2.2.2.2.1 x_14.2.2.2.2.2.2.1 x_14.2.2.2.2.2.2.2.1 x_14.2.2.2.2.2.2.2.2 (jo (l1.take k) l0) = Jo (x_14.1 % 47).toNat ((x_14.2.1 % 12).toNat) ((x_14.2.2.1 % 12).toNat) x_14.2.1 x_14.2.2.1 x_14.2.2.2.1 x_14.2.2.2.2.1 x_14.2.2.2.2.2.1 x_14.2.2.2.2.2.2.1 x_14.2.2.2.2.2.2.2.1 x_14.2.2.2.2.2.2.2.2 (jo (l1.take k) l0)))) = false := by (clear S E; first | rfl | decide | (simp; done) | (simp_all; done))
      refine Ja E rfl hc_28 ?_
      refine Qh (T_n (Qa (S_m E rfl rfl fun _ E1 => S_a E1 rfl rfl fun _ E2 => Qc (B_n (T_n (Qa (S_v E2 rfl (Qq (m := ((k + 1 : Nat) : Int)) E2 rfl rfl (by omega) (by omega)) rfl fun _ E3 => S_m E3 rfl rfl ?_)))))))
      clear E a E1 E2 E3; intro a E
      refine Qc (T_n ?_)
      exact ⟨k + 1, ⟨M_27, _, (hM_12.trans (hM_20.trans (hM_23.trans (hM_25.trans hM_27)))), S, E.keep ⟨rfl, rfl, rfl, rfl, trivial⟩, by (omega), (by exact step_rng (by assumption) hL0_1 (by omega) (by assumption) (by omega) (by omega)), (qJ hv_24 (by (exact vF (by assumption))))⟩, by omega⟩
    ·refine Qt (T_x (T_x (B_x (T_n (Qb (Qa (S_a E rfl rfl ?_)))))))
     clear E a; intro a E
     refine Qc (T_n (Qe ?_))
     exact Qg E Tryz.results3 rfl ⟨_, rfl, M_12, (hM_2.trans (hM_5.trans (hM_7.trans (hM_10.trans hM_12)))), rfl, S⟩
end Go.Proofs.YtgceicmfefpngaaGreat.wFnScript
