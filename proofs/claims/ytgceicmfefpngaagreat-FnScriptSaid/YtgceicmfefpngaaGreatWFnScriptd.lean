/- Walks through the functions that laws.FnScript reaches: what each computes; no conditions beyond what each theorem states. -/
import Derived.Test.YtgceicmfefpngaaGreatWFnScriptc
set_option linter.unusedVariables false
set_option linter.unusedSimpArgs false
namespace Go.Proofs.YtgceicmfefpngaaGreat.wFnScript
open Go Go.Sl
set_option maxRecDepth 100000
set_option maxHeartbeats 4000000
theorem lo_UniqBy {M : Hp} {v0 : Value} {l0 : List Int} (h0 : RdI M v0 l0){v1 : Value} {f1 : Int → Int} (h1 : PF1I Tryz.prog v1 M f1) (hb : l0.length ≤ 1000000000000) :
  Pu Tryz.prog (.func (.func 138) #[] #[]) M [v0, v1] (fun r M' => RdI M' r ((uqS f1 l0).2)) := by
 refine Qk Tryz.func138 rfl Tryz.ntmps138 rfl Tryz.call138 ?_
 intro a w M1 H hM1 S E
 replace h0 := h0.le hM1
 replace h1 := h1.le hM1
 have b0 := h0.bound
 have hul := Vc f1 l0
 refine Qb (Qa (S_a E rfl rfl fun _ E1 => Qc (T_n (Qb (Qa (S_m E1 rfl rfl fun _ E2 => S_v E2 rfl (Qp E2 rfl T22 h0.len) rfl ?_))))))
 clear E a E1 E2; intro a E
 refine S_x (Jf (k := (l0).length) E S rfl rfl rfl T22 rfl (by omega) (by omega) (by omega) ?_)
 clear E a S; rintro a w v_1 E S
 replace S := S.made0
 refine S_a E rfl rfl fun _ E1 => Qc (T_n (Qb (Qa (S_m E1 rfl rfl fun _ E2 => S_v E2 rfl (Qp E2 rfl T22 h0.len) rfl ?_))))
 clear E a E1 E2; intro a E
 refine S_x (ZB E S rfl Yg rfl ?_)
 clear E a S; rintro a w b_2 E S
 replace S : St w M1 (Zs b_2 ([] : List Int) :: _) := S
 refine S_a E rfl rfl fun _ E1 => Qc (T_n (Qb (Qb (Qa (S_m E1 rfl rfl fun _ E2 => S_v E2 rfl (Qp E2 rfl T22 h0.len) rfl fun _ E3 => S_m E3 rfl rfl ?_)))))
 clear E a E1 E2 E3; intro a E
 refine Qc (T_n (Qi ?_))
 replace S := S.front1
 replace S := S.front1
 replace S := S.reM (L' := (Sl.encS ((uqS f1 (l0.take 0)).1))) (congrArg Sl.encS (show ([] : List Int) = (uqS f1 (l0.take 0)).1 by first | (simp [uqS]; done) | (rw [WM (by assumption) (by assumption)]; done) | (rw [YL (by assumption) (by assumption)]; done) | (rw [YL (by assumption) (by assumption), zX (by assumption)]; done)))
 replace S := S.front1
 replace S := S.re1 (l' := (uqS f1 (l0.take 0)).2) (by (simp [uqS]; done))
 refine Qx (γ := Nat) (fun (k : Nat) a w => ∃ (M_3 : Hp) (u5 : Value), Hp.le M1 M_3 ∧ St w M_3 (QR 3 u5 ((uqS f1 (l0.take k)).2) :: Zs b_2 ((uqS f1 (l0.take k)).1) :: H) ∧ Env a 47 [] [(0, v0), (1, v1), (5, u5), (6, .map (some b_2)), (18, .int .i64 (((l0).length : Nat) : Int)), (19, .int .i64 ((k : Nat) : Int))] ∧ (k ≤ (l0).length)) (fun k => ((l0).length) - k) 0 ⟨M1, _, Hp.le.refl _, S, E.keep ⟨rfl, rfl, rfl, rfl, rfl, rfl, trivial⟩, by (omega)⟩ ?_
 try clear E
 try clear S
 try clear a
 try clear w
 rintro k a w ⟨M_3, u5, hM_3, S, E, hL0_0⟩
 replace h0 := h0.le hM_3
 replace h1 := h1.le hM_3
 have hul := Vc f1 (l0.take k); rw [List.length_take] at hul
 refine Qb (Qa (S_v E rfl (QG E rfl rfl) rfl ?_))
 clear E a; intro a E
 refine Qc (T_n (Qb ?_))
 refine Qn E rfl (fun hc_4 => ?_) (fun hc_4 => ?_)
 ·refine Qh (T_n (Qb (Qi (Qb (Qa (S_m E rfl rfl fun _ E1 => S_a E1 rfl rfl fun _ E2 => Qc (T_n (Qb (Qa (S_m E2 rfl rfl fun _ E3 => S_m E3 rfl rfl fun _ E4 => S_m E4 rfl rfl ?_))))))))))
  clear E a E1 E2 E3 E4; intro a E
  obtain ⟨x_5, hx_5⟩ : ∃ x, (l0)[k]? = some x := ⟨_, List.getElem?_eq_getElem (by omega)⟩
  obtain ⟨p_6, hp_6, qp_6⟩ := h0.at hx_5
  refine S_v E rfl (QB E rfl rfl T22 hp_6 rfl) rfl fun _ E1 => S_v E1 rfl (Qj E1 rfl Tryz.isAgg3 S.imm qp_6) rfl ?_
  clear E a E1; intro a E
  refine S_x (Qr E S rfl rfl rfl (h1.2 x_5) (Hp.le.refl _) ?_)
  clear E a S; rintro a _ w M_7 hM_7 rfl S E
  replace h0 := h0.le hM_7
  refine S_a E rfl rfl fun _ E1 => Qc (T_n (Qb (Qb (Qa (S_m E1 rfl rfl fun _ E2 => S_m E2 rfl rfl ?_)))))
  clear E a E1 E2; intro a E
  replace S := S.front1
  refine S_x (ZF E S rfl Yg rfl rfl ?_)
  clear E a S; rintro a w E S
  replace S : St w M_7 (Zs b_2 ((uqS f1 (l0.take k)).1) :: _) := S
  refine S_m E rfl rfl fun _ E1 => S_v E1 rfl (Qm E1 rfl rfl) rfl fun _ E2 => S_v E2 rfl (Qm E2 rfl rfl) rfl ?_
  clear E a E1 E2; intro a E
  refine S_x (Jp (cs := #[]) E S rfl Tryz.zeroValue117 rfl ?_)
  clear E a S; rintro a w b_8 E S
  refine Zr (Jz (us := []) E S rfl rfl (Tryz.sizeOf117 _) rfl (by intro u hu; cases hu) ?_)
  clear E a S; rintro a w E S
  replace S : St w M_7 (blk b_8 (.cells #[] 117) :: _) := S
  have S0 := S; clear S
  obtain ⟨M_9, hM_9, hb_10, S⟩ := S0.freezeB
  clear S0
  replace h0 := h0.le hM_9
  refine S_a E rfl rfl fun _ E1 => Qc (T_n (Qb (Qa (S_m E1 rfl rfl ?_))))
  clear E a E1; intro a E
  refine Qc (T_n ?_)
  refine Qn E rfl (fun hc_11 => ?_) (fun hc_11 => ?_)
  ·refine Qt (T_x (B_x (T_n (Qa (S_v E rfl (Qq (m := ((k + 1 : Nat) : Int)) E rfl rfl (by omega) (by omega)) rfl fun _ E1 => S_m E1 rfl rfl ?_)))))
   clear E a E1; intro a E
   refine Qc (T_n ?_)
   replace S := S.front1
   replace S := S.front1
   replace S := S.reM (L' := (Sl.encS ((uqS f1 (l0.take (k + 1))).1))) (congrArg Sl.encS (show (uqS f1 (l0.take k)).1 = (uqS f1 (l0.take (k + 1))).1 by first | (simp [uqS]; done) | (rw [WM (by assumption) (by assumption)]; done) | (rw [YL (by assumption) (by assumption)]; done) | (rw [YL (by assumption) (by assumption), zX (by assumption)]; done)))
   replace S := S.front1
   replace S := S.re1 (l' := (uqS f1 (l0.take (k + 1))).2) (by (rw [WM (by assumption) (by assumption)]; done))
   exact ⟨k + 1, ⟨M_9, _, (hM_3.trans (hM_7.trans hM_9)), S, E.keep ⟨rfl, rfl, rfl, rfl, rfl, rfl, trivial⟩, by (omega)⟩, by omega⟩
  ·refine Qh (T_n (Qb (Qa (S_m E rfl rfl fun _ E1 => S_m E1 rfl rfl fun _ E2 => S_v E2 rfl (VE (u := .agg #[]) (vs := []) E2 rfl (fun w => qQ  w)) rfl ?_))))
   clear E a E1 E2; intro a E
   refine Zr (Wz E S Yg rfl rfl rfl ?_)
   clear E a S; rintro a w E S
   refine Qc (T_n (Qa (S_m E rfl rfl fun _ E1 => S_m E1 rfl rfl fun _ E2 => S_m E2 rfl rfl ?_)))
   clear E a E1 E2; intro a E
   obtain ⟨p_12, hp_12, qp_12⟩ := h0.at hx_5
   refine S_v E rfl (QB E rfl rfl T22 hp_12 rfl) rfl fun _ E1 => S_v E1 rfl (Qj E1 rfl Tryz.isAgg3 S.imm qp_12) rfl ?_
   clear E a E1; intro a E
   refine S_x (Qy (ys := [x_5]) E S rfl T22 rfl rfl rfl ?_)
   clear E a S; rintro a w v_13 E S
   replace S := S.front2
   replace S := S.front1
   refine S_x (QH (xs := (uqS f1 (l0.take k)).2) (ys := [x_5]) E S rfl rfl rfl T22 (by (simp only [List.length_cons, List.length_nil] at *; omega)) ?_)
   clear E a S; rintro a w v_14 E S
   refine S_a E rfl rfl fun _ E1 => Qc (B_n (T_n (Qa (S_v E1 rfl (Qq (m := ((k + 1 : Nat) : Int)) E1 rfl rfl (by omega) (by omega)) rfl fun _ E2 => S_m E2 rfl rfl ?_))))
   clear E a E1 E2; intro a E
   refine Qc (T_n ?_)
   replace S := S.front1
   replace S := S.reM (L' := (Sl.encS ((uqS f1 (l0.take (k + 1))).1))) (congrArg Sl.encS (show Ye ((uqS f1 (l0.take k)).1) (f1 x_5) = (uqS f1 (l0.take (k + 1))).1 by first | (simp [uqS]; done) | (rw [WM (by assumption) (by assumption)]; done) | (rw [YL (by assumption) (by assumption)]; done) | (rw [YL (by assumption) (by assumption), zX (by assumption)]; done)))
   replace S := S.front1
   replace S := S.re1 (l' := (uqS f1 (l0.take (k + 1))).2) (by (rw [YL (by assumption) (by assumption)]; done))
   exact ⟨k + 1, ⟨M_9, _, (hM_3.trans (hM_7.trans hM_9)), S, E.keep ⟨rfl, rfl, rfl, rfl, rfl, rfl, trivial⟩, by (omega)⟩, by omega⟩
 ·refine Qt (T_x (T_x (B_x (T_n (Qb (Qa (S_m E rfl rfl fun _ E1 => S_a E1 rfl rfl ?_)))))))
  clear E a E1; intro a E
  refine Qc (T_n (Qe ?_))
  have S0 := S; clear S
  obtain ⟨M_15, hM_15, hz_16, S⟩ := S0.freezeI (by (have hul := Vc f1 (l0.take k); rw [List.length_take] at hul; omega))
  clear S0
  exact Qg E Tryz.results138 rfl ⟨_, rfl, M_15, (hM_3.trans hM_15), (RdS.eqL hz_16 (by (rw [List.take_of_length_le (by omega)]))), S.drop⟩
theorem Key_of_c {M : Hp} {kk0 kn0 : Int} (gk0 : -9223372036854775808 ≤ kn0 ∧ kn0 ≤ 9223372036854775807){x1 : Int} :
  PuC Tryz.prog 139 M [.agg #[.int .i64 kk0, .int .i64 kn0], .int .i64 x1] (fun r M' => r = .int .i64 (Qs kk0 kn0 x1 0)) := by
 refine YJ Tryz.func139 rfl Tryz.ntmps139 rfl ?_
 intro a w M1 H hM1 S E
 refine Qb (Qa ?_)
 refine S_x (Jc (cs := #[.int .i64 kk0, .int .i64 kn0]) E S rfl rfl rfl ?_)
 clear E a S; rintro a w b_1 E S
 obtain ⟨M_2, hM_2, hb_1, S⟩ := S.freezeB
 refine S_a E rfl rfl fun _ E1 => Qc (T_n (Qb (Qa (S_v E1 rfl (QA E1 rfl (Tryz.isAgg30 _) (Tryz.sizeOf30 _) S.imm hb_1) rfl fun _ E2 => S_m E2 rfl rfl ?_))))
 clear E a E1 E2; intro a E
 refine S_x (Qr E S rfl rfl rfl (jf (by omega)) (Hp.le.refl _) ?_)
 clear E a S; rintro a _ w M_3 hM_3 rfl S E
 refine S_a E rfl rfl ?_
 clear E a; intro a E
 refine Qc (T_n (Qe ?_))
 exact Qg E Tryz.results139 rfl ⟨_, rfl, M_3, (hM_2.trans hM_3), rfl, S⟩
theorem je {M : Hp} {kk0 kn0 : Int} (gk0 : -9223372036854775808 ≤ kn0 ∧ kn0 ≤ 9223372036854775807){x1 : Int} :
  Pu Tryz.prog (.func (.func 139) #[.agg #[.int .i64 kk0, .int .i64 kn0]] #[]) M [.int .i64 x1] (fun r M' => r = .int .i64 (Qs kk0 kn0 x1 0)) := PuC.pu Tryz.call139 rfl (Key_of_c gk0)
theorem Key_of_d {M : Hp} {kk0 kn0 : Int} (gk0 : -9223372036854775808 ≤ kn0 ∧ kn0 ≤ 9223372036854775807){x1 : Int} :
  Pu Tryz.prog (.func (.func 139) #[] #[]) M [.agg #[.int .i64 kk0, .int .i64 kn0], .int .i64 x1] (fun r M' => r = .int .i64 (Qs kk0 kn0 x1 0)) := PuC.pu Tryz.call139 rfl (Key_of_c gk0)
theorem impl_UniqBy {M : Hp} {v0 : Value} {l0 : List Int} (h0 : RdI M v0 l0){kk1 kn1 : Int} (gk1 : -9223372036854775808 ≤ kn1 ∧ kn1 ≤ 9223372036854775807) (hb : l0.length ≤ 1000000000000) :
  Pu Tryz.prog (.func (.func 51) #[] #[]) M [v0, .agg #[.int .i64 kk1, .int .i64 kn1]] (fun r M' => RdI M' r ((uqS (fun x => Qs kk1 kn1 x 0) l0).2)) := by
 refine Qk Tryz.func51 rfl Tryz.ntmps51 rfl Tryz.call51 ?_
 intro a w M1 H hM1 S E
 replace h0 := h0.le hM1
 have b0 := h0.bound
 have hul := Vc (fun x => Qs kk1 kn1 x 0) l0
 refine Qb (Qa ?_)
 refine S_x (Jc (cs := #[.int .i64 kk1, .int .i64 kn1]) E S rfl rfl rfl ?_)
 clear E a S; rintro a w b_1 E S
 obtain ⟨M_2, hM_2, hb_1, S⟩ := S.freezeB
 replace h0 := h0.le hM_2
 refine S_a E rfl rfl fun _ E1 => Qc (T_n (Qb (Qa (S_m E1 rfl rfl fun _ E2 => S_v E2 rfl (QA E2 rfl (Tryz.isAgg30 _) (Tryz.sizeOf30 _) S.imm hb_1) rfl fun _ E3 => S_v E3 rfl (QT E3 rfl rfl) rfl ?_))))
 clear E a E1 E2 E3; intro a E
 refine S_x (Qr E S rfl rfl rfl (lo_UniqBy h0 ⟨rfl, fun zx1 => je (x1 := zx1) (by omega)⟩ (by (omega))) (Hp.le.refl _) ?_)
 clear E a S; rintro a v_4 w M_3 hM_3 hv_4 S E
 refine S_a E rfl rfl ?_
 clear E a; intro a E
 refine Qc (T_n (Qe ?_))
 exact Qg E Tryz.results51 rfl ⟨_, rfl, M_3, (hM_2.trans hM_3), hv_4, S⟩
theorem zD {M : Hp} {v0 : Value} {l0 : List Int} (h0 : RdI M v0 l0) (hb : l0.length ≤ 1000000000000) :
  Pu Tryz.prog (.func (.func 140) #[] #[]) M [v0] (fun r M' => RdI M' r ((l0).filter (fun x => !Jk false (Qw (fun x => x) l0) ((fun x => x) x)))) := by
 refine Qk Tryz.func140 rfl Tryz.ntmps140 rfl Tryz.call140 ?_
 intro a w M1 H hM1 S E
 replace h0 := h0.le hM1
 have b0 := h0.bound
 refine Qb (Qa (S_a E rfl rfl fun _ E1 => Qc (T_n (Qb (Qa (S_m E1 rfl rfl fun _ E2 => S_v E2 rfl (Qp E2 rfl T22 h0.len) rfl ?_))))))
 clear E a E1 E2; intro a E
 refine S_x (ZB E S rfl JU rfl ?_)
 clear E a S; rintro a w b_1 E S
 replace S : St w M1 (Zw Value.bool b_1 ([] : List (Int × Bool)) :: _) := S
 refine S_a E rfl rfl fun _ E1 => Qc (T_n (Qb (Qa (S_a E1 rfl rfl fun _ E2 => Qc (T_n (Qb (Qb (Qa (S_m E2 rfl rfl fun _ E3 => S_v E3 rfl (Qp E3 rfl T22 h0.len) rfl fun _ E4 => S_m E4 rfl rfl ?_)))))))))
 clear E a E1 E2 E3 E4; intro a E
 refine Qc (T_n (Qi ?_))
 replace S := S.reM (L' := (QY Value.bool (Qw (fun x => x) (l0.take 0)))) (congrArg (QY Value.bool) (show ([] : List (Int × Bool)) = Qw (fun x => x) (l0.take 0) by first | rfl | (simp [Qw]; done) | exact YT (f := (fun x => x)) (by assumption) (by assumption) | exact YA (f := (fun x => x)) (by assumption) (by assumption)))
 refine Qx (γ := Nat) (fun (k : Nat) a w => ∃ (M_2 : Hp), Hp.le M1 M_2 ∧ St w M_2 (Zw Value.bool b_1 (Qw (fun x => x) (l0.take k)) :: H) ∧ Env a 67 [] [(0, v0), (3, .map (some b_1)), (4, .int .i64 ((Zu (Qw (fun x => x) (l0.take k)) : Nat) : Int)), (15, .int .i64 (((l0).length : Nat) : Int)), (16, .int .i64 ((k : Nat) : Int))] ∧ (k ≤ (l0).length)) (fun k => ((l0).length) - k) 0 ⟨M1, Hp.le.refl _, S, E.keep ⟨rfl, rfl, QM (i := 0) rfl (by (simp [Qw, Zu])), rfl, rfl, trivial⟩, by (omega)⟩ ?_
 try clear E
 try clear S
 try clear a
 try clear w
 rintro k a w ⟨M_2, hM_2, S, E, hL0_0⟩
 replace h0 := h0.le hM_2
 have hdl := ZD (fun x => x) (l0.take k); rw [List.length_take] at hdl
 have hct := Yj (Qw (fun x => x) (l0.take k))
 refine Qb (Qa (S_v E rfl (QG E rfl rfl) rfl ?_))
 clear E a; intro a E
 refine Qc (T_n (Qb ?_))
 refine Qn E rfl (fun hc_3 => ?_) (fun hc_3 => ?_)
 ·refine Qh (T_n (Qb (Qi (Qb (Qa (S_m E rfl rfl fun _ E1 => S_a E1 rfl rfl fun _ E2 => Qc (T_n (Qb (Qa (S_m E2 rfl rfl fun _ E3 => S_m E3 rfl rfl fun _ E4 => S_m E4 rfl rfl ?_))))))))))
  clear E a E1 E2 E3 E4; intro a E
  obtain ⟨x_4, hx_4⟩ : ∃ x, (l0)[k]? = some x := ⟨_, List.getElem?_eq_getElem (by omega)⟩
  obtain ⟨p_5, hp_5, qp_5⟩ := h0.at hx_4
  refine S_v E rfl (QB E rfl rfl T22 hp_5 rfl) rfl fun _ E1 => S_v E1 rfl (Qj E1 rfl Tryz.isAgg3 S.imm qp_5) rfl ?_
  clear E a E1; intro a E
  refine S_x (Yo (vf := Value.bool) (zb := false) E S rfl JU rfl rfl ?_)
  clear E a S; rintro a w E S
  replace S : St w M_2 (Zw Value.bool b_1 (Qw (fun x => x) (l0.take k)) :: _) := S
  refine S_m E rfl rfl fun _ E1 => S_v E1 rfl (Qm E1 rfl rfl) rfl fun _ E2 => S_v E2 rfl (Qm E2 rfl rfl) rfl fun _ E3 => S_a E3 rfl rfl fun _ E4 => S_a E4 rfl rfl fun _ E5 => Qc (T_n (Qb (Qa (S_m E5 rfl rfl ?_))))
  clear E a E1 E2 E3 E4 E5; intro a E
  refine S_v E rfl (Zk E rfl) rfl ?_
  clear E a; intro a E
  refine Qc (T_n ?_)
  refine QL E rfl (fun hc_6 => ?_) (fun hc_6 => ?_)
  ·refine Qb ?_
   refine Qa (S_m E rfl rfl fun _ E1 => S_m E1 rfl rfl fun _ E2 => S_m E2 rfl rfl ?_)
   clear E a E1 E2; intro a E
   obtain ⟨p_7, hp_7, qp_7⟩ := h0.at hx_4
   refine S_v E rfl (QB E rfl rfl T22 hp_7 rfl) rfl fun _ E1 => S_v E1 rfl (Qj E1 rfl Tryz.isAgg3 S.imm qp_7) rfl fun _ E2 => S_m E2 rfl rfl ?_
   clear E a E1 E2; intro a E
   refine Zr (ZT (vf := Value.bool) (u := JI (Qw (fun x => x) (l0.take k)) x_4) E S JU rfl rfl rfl ?_)
   clear E a S; rintro a w E S
   refine Qc (T_n (Qb (Qa (S_m E rfl rfl ?_))))
   clear E a; intro a E
   refine Qc (T_n ?_)
   refine QL E rfl (fun hc_8 => ?_) (fun hc_8 => ?_)
   ·refine Qa ?_
    refine S_m E rfl rfl fun _ E1 => S_v E1 rfl (Qq (m := ((Zu (Qw (fun x => x) (l0.take k)) + 1 : Nat) : Int)) E1 rfl rfl (by omega) (by omega)) rfl fun _ E2 => S_a E2 rfl rfl fun _ E3 => Qc (B_n (T_n (Qa (S_v E3 rfl (Qq (m := ((k + 1 : Nat) : Int)) E3 rfl rfl (by omega) (by omega)) rfl fun _ E4 => S_m E4 rfl rfl ?_))))
    clear E a E1 E2 E3 E4; intro a E
    refine Qc (T_n ?_)
    replace S := S.reM (L' := (QY Value.bool (Qw (fun x => x) (l0.take (k + 1))))) (congrArg (QY Value.bool) (show JB (Qw (fun x => x) (l0.take k)) x_4 (JI (Qw (fun x => x) (l0.take k)) x_4) = Qw (fun x => x) (l0.take (k + 1)) by first | rfl | (simp [Qw]; done) | exact YT (f := (fun x => x)) (by assumption) (by assumption) | exact YA (f := (fun x => x)) (by assumption) (by assumption)))
    exact ⟨k + 1, ⟨M_2, hM_2, S, E.keep ⟨rfl, rfl, QM (i := Zu (Qw (fun x => x) (l0.take k)) + 1) rfl (by ((have h9 := cnt_i (f := (fun x => x)) (by assumption) (by assumption) (by assumption); omega))), rfl, rfl, trivial⟩, by (omega)⟩, by omega⟩
   ·refine Qh ?_
    refine B_n (T_n (Qa (S_v E rfl (Qq (m := ((k + 1 : Nat) : Int)) E rfl rfl (by omega) (by omega)) rfl fun _ E1 => S_m E1 rfl rfl ?_)))
    clear E a E1; intro a E
    refine Qc (T_n ?_)
    replace S := S.reM (L' := (QY Value.bool (Qw (fun x => x) (l0.take (k + 1))))) (congrArg (QY Value.bool) (show JB (Qw (fun x => x) (l0.take k)) x_4 (JI (Qw (fun x => x) (l0.take k)) x_4) = Qw (fun x => x) (l0.take (k + 1)) by first | rfl | (simp [Qw]; done) | exact YT (f := (fun x => x)) (by assumption) (by assumption) | exact YA (f := (fun x => x)) (by assumption) (by assumption)))
    exact ⟨k + 1, ⟨M_2, hM_2, S, E.keep ⟨rfl, rfl, QM (i := Zu (Qw (fun x => x) (l0.take k))) rfl (by ((have h9 := cnt_n (f := (fun x => x)) (by assumption) (by assumption) (by assumption); omega))), rfl, rfl, trivial⟩, by (omega)⟩, by omega⟩
  ·refine Qh ?_
   refine B_n (T_n (Qa (S_v E rfl (Qq (m := ((k + 1 : Nat) : Int)) E rfl rfl (by omega) (by omega)) rfl fun _ E1 => S_m E1 rfl rfl ?_)))
   clear E a E1; intro a E
   refine Qc (T_n ?_)
   replace S := S.reM (L' := (QY Value.bool (Qw (fun x => x) (l0.take (k + 1))))) (congrArg (QY Value.bool) (show Qw (fun x => x) (l0.take k) = Qw (fun x => x) (l0.take (k + 1)) by first | rfl | (simp [Qw]; done) | exact YT (f := (fun x => x)) (by assumption) (by assumption) | exact YA (f := (fun x => x)) (by assumption) (by assumption)))
   exact ⟨k + 1, ⟨M_2, hM_2, S, E.keep ⟨rfl, rfl, QM (i := Zu (Qw (fun x => x) (l0.take k))) rfl (by ((have h9 := cnt_y (f := (fun x => x)) (by assumption) (by assumption); omega))), rfl, rfl, trivial⟩, by (omega)⟩, by omega⟩
 ·refine Qt (T_x (T_x (B_x (T_n (Qb (Qa (S_m E rfl rfl fun _ E1 => S_v E1 rfl ((jd E1 S JU rfl).trans (by rw [Wd])) rfl fun _ E2 => S_m E2 rfl rfl fun _ E3 => S_v E3 rfl (Jg (m := (((Qw (fun x => x) (l0.take k)).length - (Zu (Qw (fun x => x) (l0.take k))) : Nat) : Int)) E3 rfl rfl (by omega) (by omega)) rfl ?_)))))))
  clear E a E1 E2 E3; intro a E
  refine S_x (Jf (k := (Qw (fun x => x) (l0.take k)).length - (Zu (Qw (fun x => x) (l0.take k)))) E S rfl rfl rfl T22 rfl (by omega) (by (have hdl := ZD (fun x => x) (l0.take k); rw [List.length_take] at hdl; have hct := Yj (Qw (fun x => x) (l0.take k)); omega)) (by (have hdl := ZD (fun x => x) (l0.take k); rw [List.length_take] at hdl; have hct := Yj (Qw (fun x => x) (l0.take k)); omega)) ?_)
  clear E a S; rintro a w v_9 E S
  replace S := S.made0
  refine S_a E rfl rfl fun _ E1 => Qc (T_n (Qb (Qb (Qa (S_m E1 rfl rfl fun _ E2 => S_v E2 rfl (Qp E2 rfl T22 h0.len) rfl fun _ E3 => S_m E3 rfl rfl ?_)))))
  clear E a E1 E2 E3; intro a E
  refine Qc (T_n (Qi ?_))
  replace S := S.front1
  replace S := S.front1
  replace S := S.front1
  replace S := S.front1
  replace S := S.re1 (l' := (l0.take 0).filter (fun x => !Jk false (Qw (fun x => x) (l0.take k)) ((fun x => x) x))) (by rfl)
  refine Qx (γ := Nat) (fun (j : Nat) a w => ∃ (M_10 : Hp) (u8 : Value), Hp.le M_2 M_10 ∧ St w M_10 (QR 3 u8 ((l0.take j).filter (fun x => !Jk false (Qw (fun x => x) (l0.take k)) ((fun x => x) x))) :: Zw Value.bool b_1 (Qw (fun x => x) (l0.take k)) :: H) ∧ Env a 67 [] [(0, v0), (3, .map (some b_1)), (8, u8), (46, .int .i64 (((l0).length : Nat) : Int)), (47, .int .i64 ((j : Nat) : Int))] ∧ (j ≤ (l0).length)) (fun j => ((l0).length) - j) 0 ⟨M_2, _, Hp.le.refl _, S, E.keep ⟨rfl, rfl, rfl, rfl, rfl, trivial⟩, by (omega)⟩ ?_
  try clear E
  try clear S
  try clear a
  try clear w
  rintro j a w ⟨M_10, u8, hM_10, S, E, hL1_0⟩
  replace h0 := h0.le hM_10
  have hfl := List.length_filter_le (fun x => !Jk false (Qw (fun x => x) (l0.take k)) ((fun x => x) x)) (l0.take j); rw [List.length_take] at hfl
  refine Qb (Qa (S_v E rfl (QG E rfl rfl) rfl ?_))
  clear E a; intro a E
  refine Qc (T_n (Qb ?_))
  refine Qn E rfl (fun hc_11 => ?_) (fun hc_11 => ?_)
  ·refine Qh (T_n (Qb (Qi (Qb (Qa (S_m E rfl rfl fun _ E1 => S_a E1 rfl rfl fun _ E2 => Qc (T_n (Qb (Qa (S_m E2 rfl rfl fun _ E3 => S_m E3 rfl rfl fun _ E4 => S_m E4 rfl rfl ?_))))))))))
   clear E a E1 E2 E3 E4; intro a E
   obtain ⟨x_12, hx_12⟩ : ∃ x, (l0)[j]? = some x := ⟨_, List.getElem?_eq_getElem (by omega)⟩
   obtain ⟨p_13, hp_13, qp_13⟩ := h0.at hx_12
   refine S_v E rfl (QB E rfl rfl T22 hp_13 rfl) rfl fun _ E1 => S_v E1 rfl (Qj E1 rfl Tryz.isAgg3 S.imm qp_13) rfl ?_
   clear E a E1; intro a E
   replace S := S.front1
   refine S_x (Uy (vf := Value.bool) (zb := false) E S rfl JU rfl rfl ?_)
   clear E a S; rintro a w E S
   replace S : St w M_10 (Zw Value.bool b_1 (Qw (fun x => x) (l0.take k)) :: _) := S
   refine S_a E rfl rfl fun _ E1 => Qc (T_n (Qb (Qa (S_m E1 rfl rfl fun _ E2 => S_v E2 rfl (Zk E2 rfl) rfl ?_))))
   clear E a E1 E2; intro a E
   refine Qc (T_n ?_)
   refine QL E rfl (fun hc_14 => ?_) (fun hc_14 => ?_)
   ·refine Qa ?_
    refine S_m E rfl rfl fun _ E1 => S_m E1 rfl rfl fun _ E2 => S_m E2 rfl rfl ?_
    clear E a E1 E2; intro a E
    obtain ⟨p_15, hp_15, qp_15⟩ := h0.at hx_12
    refine S_v E rfl (QB E rfl rfl T22 hp_15 rfl) rfl fun _ E1 => S_v E1 rfl (Qj E1 rfl Tryz.isAgg3 S.imm qp_15) rfl ?_
    clear E a E1; intro a E
    refine S_x (Qy (ys := [x_12]) E S rfl T22 rfl rfl rfl ?_)
    clear E a S; rintro a w v_16 E S
    replace S := S.front2
    replace S := S.front1
    refine S_x (QH (xs := (l0.take j).filter (fun x => !Jk false (Qw (fun x => x) (l0.take k)) ((fun x => x) x))) (ys := [x_12]) E S rfl rfl rfl T22 (by (simp only [List.length_cons, List.length_nil] at *; omega)) ?_)
    clear E a S; rintro a w v_17 E S
    refine S_a E rfl rfl fun _ E1 => Qc (B_n (T_n (Qa (S_v E1 rfl (Qq (m := ((j + 1 : Nat) : Int)) E1 rfl rfl (by omega) (by omega)) rfl fun _ E2 => S_m E2 rfl rfl ?_))))
    clear E a E1 E2; intro a E
    refine Qc (T_n ?_)
    replace S := S.front1
    replace S := S.front1
    replace S := S.re1 (l' := (l0.take (j + 1)).filter (fun x => !Jk false (Qw (fun x => x) (l0.take k)) ((fun x => x) x))) (by exact flt1_yes (f := fun x => !Jk false (Qw (fun x => x) (l0.take k)) ((fun x => x) x)) (by assumption) (by assumption))
    exact ⟨j + 1, ⟨M_10, _, hM_10, S, E.keep ⟨rfl, rfl, rfl, rfl, rfl, trivial⟩, by (omega)⟩, by omega⟩
   ·refine Qh ?_
    refine B_n (T_n (Qa (S_v E rfl (Qq (m := ((j + 1 : Nat) : Int)) E rfl rfl (by omega) (by omega)) rfl fun _ E1 => S_m E1 rfl rfl ?_)))
    clear E a E1; intro a E
    refine Qc (T_n ?_)
    replace S := S.front1
    replace S := S.front1
    replace S := S.front1
    replace S := S.re1 (l' := (l0.take (j + 1)).filter (fun x => !Jk false (Qw (fun x => x) (l0.take k)) ((fun x => x) x))) (by exact flt1_no (f := fun x => !Jk false (Qw (fun x => x) (l0.take k)) ((fun x => x) x)) (by assumption) (by assumption))
    exact ⟨j + 1, ⟨M_10, _, hM_10, S, E.keep ⟨rfl, rfl, rfl, rfl, rfl, trivial⟩, by (omega)⟩, by omega⟩
  ·refine Qt (T_x (T_x (B_x (T_n (Qb (Qa (S_m E rfl rfl fun _ E1 => S_a E1 rfl rfl ?_)))))))
   clear E a E1; intro a E
   refine Qc (T_n (Qe ?_))
   have S0 := S; clear S
   obtain ⟨M_18, hM_18, hz_19, S⟩ := S0.freezeI (by (have hfl := List.length_filter_le (fun x => !Jk false (Qw (fun x => x) (l0.take k)) ((fun x => x) x)) (l0.take j); rw [List.length_take] at hfl; omega))
   clear S0
   exact Qg E Tryz.results140 rfl ⟨_, rfl, M_18, (hM_2.trans (hM_10.trans hM_18)), (RdS.eqL hz_19 (by (rw [List.take_of_length_le (l := l0) (i := k) (by omega), List.take_of_length_le (l := l0) (i := j) (by omega)]))), S.drop⟩
theorem GT {M : Hp} {v0 : Value} {l0 : List Int} (h0 : RdI M v0 l0) (hb : l0.length ≤ 1000000000000) :
  Pu Tryz.prog (.func (.func 52) #[] #[]) M [v0] (fun r M' => RdI M' r ((l0).filter (fun x => !Jk false (Qw (fun x => x) l0) ((fun x => x) x)))) := by
 refine Qk Tryz.func52 rfl Tryz.ntmps52 rfl Tryz.call52 ?_
 intro a w M1 H hM1 S E
 replace h0 := h0.le hM1
 have b0 := h0.bound
 refine Qb (Qa (S_a E rfl rfl fun _ E1 => Qc (T_n (Qb (Qa (S_m E1 rfl rfl ?_))))))
 clear E a E1; intro a E
 refine S_x (Qr E S rfl rfl rfl (zD h0 (by (omega))) (Hp.le.refl _) ?_)
 clear E a S; rintro a v_2 w M_1 hM_1 hv_2 S E
 refine S_a E rfl rfl ?_
 clear E a; intro a E
 refine Qc (T_n (Qe ?_))
 exact Qg E Tryz.results52 rfl ⟨_, rfl, M_1, hM_1, hv_2, S⟩
theorem Gn {M : Hp} {v0 : Value} {l0 : List Int} (h0 : RdI M v0 l0) (hb : l0.length ≤ 1000000000000) :
  Pu Tryz.prog (.func (.func 141) #[] #[]) M [v0] (fun r M' => RdI M' r ((fdS (fun x => x) (Qw (fun x => x) l0) l0).2)) := by
 refine Qk Tryz.func141 rfl Tryz.ntmps141 rfl Tryz.call141 ?_
 intro a w M1 H hM1 S E
 replace h0 := h0.le hM1
 have b0 := h0.bound
 refine Qb (Qa (S_a E rfl rfl fun _ E1 => Qc (T_n (Qb (Qa (S_m E1 rfl rfl fun _ E2 => S_v E2 rfl (Qp E2 rfl T22 h0.len) rfl ?_))))))
 clear E a E1 E2; intro a E
 refine S_x (ZB E S rfl JU rfl ?_)
 clear E a S; rintro a w b_1 E S
 replace S : St w M1 (Zw Value.bool b_1 ([] : List (Int × Bool)) :: _) := S
 refine S_a E rfl rfl fun _ E1 => Qc (T_n (Qb (Qa (S_a E1 rfl rfl fun _ E2 => Qc (T_n (Qb (Qb (Qa (S_m E2 rfl rfl fun _ E3 => S_v E3 rfl (Qp E3 rfl T22 h0.len) rfl fun _ E4 => S_m E4 rfl rfl ?_)))))))))
 clear E a E1 E2 E3 E4; intro a E
 refine Qc (T_n (Qi ?_))
 replace S := S.reM (L' := (QY Value.bool (Qw (fun x => x) (l0.take 0)))) (congrArg (QY Value.bool) (show ([] : List (Int × Bool)) = Qw (fun x => x) (l0.take 0) by first | rfl | (simp [Qw]; done) | exact YT (f := (fun x => x)) (by assumption) (by assumption) | exact YA (f := (fun x => x)) (by assumption) (by assumption)))
 refine Qx (γ := Nat) (fun (k : Nat) a w => ∃ (M_2 : Hp), Hp.le M1 M_2 ∧ St w M_2 (Zw Value.bool b_1 (Qw (fun x => x) (l0.take k)) :: H) ∧ Env a 68 [] [(0, v0), (3, .map (some b_1)), (4, .int .i64 ((Zu (Qw (fun x => x) (l0.take k)) : Nat) : Int)), (15, .int .i64 (((l0).length : Nat) : Int)), (16, .int .i64 ((k : Nat) : Int))] ∧ (k ≤ (l0).length)) (fun k => ((l0).length) - k) 0 ⟨M1, Hp.le.refl _, S, E.keep ⟨rfl, rfl, QM (i := 0) rfl (by (simp [Qw, Zu])), rfl, rfl, trivial⟩, by (omega)⟩ ?_
 try clear E
 try clear S
 try clear a
 try clear w
 rintro k a w ⟨M_2, hM_2, S, E, hL0_0⟩
 replace h0 := h0.le hM_2
 have hdl := ZD (fun x => x) (l0.take k); rw [List.length_take] at hdl
 have hct := Yj (Qw (fun x => x) (l0.take k))
 refine Qb (Qa (S_v E rfl (QG E rfl rfl) rfl ?_))
 clear E a; intro a E
 refine Qc (T_n (Qb ?_))
 refine Qn E rfl (fun hc_3 => ?_) (fun hc_3 => ?_)
 ·refine Qh (T_n (Qb (Qi (Qb (Qa (S_m E rfl rfl fun _ E1 => S_a E1 rfl rfl fun _ E2 => Qc (T_n (Qb (Qa (S_m E2 rfl rfl fun _ E3 => S_m E3 rfl rfl fun _ E4 => S_m E4 rfl rfl ?_))))))))))
  clear E a E1 E2 E3 E4; intro a E
  obtain ⟨x_4, hx_4⟩ : ∃ x, (l0)[k]? = some x := ⟨_, List.getElem?_eq_getElem (by omega)⟩
  obtain ⟨p_5, hp_5, qp_5⟩ := h0.at hx_4
  refine S_v E rfl (QB E rfl rfl T22 hp_5 rfl) rfl fun _ E1 => S_v E1 rfl (Qj E1 rfl Tryz.isAgg3 S.imm qp_5) rfl ?_
  clear E a E1; intro a E
  refine S_x (Yo (vf := Value.bool) (zb := false) E S rfl JU rfl rfl ?_)
  clear E a S; rintro a w E S
  replace S : St w M_2 (Zw Value.bool b_1 (Qw (fun x => x) (l0.take k)) :: _) := S
  refine S_m E rfl rfl fun _ E1 => S_v E1 rfl (Qm E1 rfl rfl) rfl fun _ E2 => S_v E2 rfl (Qm E2 rfl rfl) rfl fun _ E3 => S_a E3 rfl rfl fun _ E4 => S_a E4 rfl rfl fun _ E5 => Qc (T_n (Qb (Qa (S_m E5 rfl rfl ?_))))
  clear E a E1 E2 E3 E4 E5; intro a E
  refine S_v E rfl (Zk E rfl) rfl ?_
  clear E a; intro a E
  refine Qc (T_n ?_)
  refine QL E rfl (fun hc_6 => ?_) (fun hc_6 => ?_)
  ·refine Qb ?_
   refine Qa (S_m E rfl rfl fun _ E1 => S_m E1 rfl rfl fun _ E2 => S_m E2 rfl rfl ?_)
   clear E a E1 E2; intro a E
   obtain ⟨p_7, hp_7, qp_7⟩ := h0.at hx_4
   refine S_v E rfl (QB E rfl rfl T22 hp_7 rfl) rfl fun _ E1 => S_v E1 rfl (Qj E1 rfl Tryz.isAgg3 S.imm qp_7) rfl fun _ E2 => S_m E2 rfl rfl ?_
   clear E a E1 E2; intro a E
   refine Zr (ZT (vf := Value.bool) (u := JI (Qw (fun x => x) (l0.take k)) x_4) E S JU rfl rfl rfl ?_)
   clear E a S; rintro a w E S
   refine Qc (T_n (Qb (Qa (S_m E rfl rfl ?_))))
   clear E a; intro a E
   refine Qc (T_n ?_)
   refine QL E rfl (fun hc_8 => ?_) (fun hc_8 => ?_)
   ·refine Qa ?_
    refine S_m E rfl rfl fun _ E1 => S_v E1 rfl (Qq (m := ((Zu (Qw (fun x => x) (l0.take k)) + 1 : Nat) : Int)) E1 rfl rfl (by omega) (by omega)) rfl fun _ E2 => S_a E2 rfl rfl fun _ E3 => Qc (B_n (T_n (Qa (S_v E3 rfl (Qq (m := ((k + 1 : Nat) : Int)) E3 rfl rfl (by omega) (by omega)) rfl fun _ E4 => S_m E4 rfl rfl ?_))))
    clear E a E1 E2 E3 E4; intro a E
    refine Qc (T_n ?_)
    replace S := S.reM (L' := (QY Value.bool (Qw (fun x => x) (l0.take (k + 1))))) (congrArg (QY Value.bool) (show JB (Qw (fun x => x) (l0.take k)) x_4 (JI (Qw (fun x => x) (l0.take k)) x_4) = Qw (fun x => x) (l0.take (k + 1)) by first | rfl | (simp [Qw]; done) | exact YT (f := (fun x => x)) (by assumption) (by assumption) | exact YA (f := (fun x => x)) (by assumption) (by assumption)))
    exact ⟨k + 1, ⟨M_2, hM_2, S, E.keep ⟨rfl, rfl, QM (i := Zu (Qw (fun x => x) (l0.take k)) + 1) rfl (by ((have h9 := cnt_i (f := (fun x => x)) (by assumption) (by assumption) (by assumption); omega))), rfl, rfl, trivial⟩, by (omega)⟩, by omega⟩
   ·refine Qh ?_
    refine B_n (T_n (Qa (S_v E rfl (Qq (m := ((k + 1 : Nat) : Int)) E rfl rfl (by omega) (by omega)) rfl fun _ E1 => S_m E1 rfl rfl ?_)))
    clear E a E1; intro a E
    refine Qc (T_n ?_)
    replace S := S.reM (L' := (QY Value.bool (Qw (fun x => x) (l0.take (k + 1))))) (congrArg (QY Value.bool) (show JB (Qw (fun x => x) (l0.take k)) x_4 (JI (Qw (fun x => x) (l0.take k)) x_4) = Qw (fun x => x) (l0.take (k + 1)) by first | rfl | (simp [Qw]; done) | exact YT (f := (fun x => x)) (by assumption) (by assumption) | exact YA (f := (fun x => x)) (by assumption) (by assumption)))
    exact ⟨k + 1, ⟨M_2, hM_2, S, E.keep ⟨rfl, rfl, QM (i := Zu (Qw (fun x => x) (l0.take k))) rfl (by ((have h9 := cnt_n (f := (fun x => x)) (by assumption) (by assumption) (by assumption); omega))), rfl, rfl, trivial⟩, by (omega)⟩, by omega⟩
  ·refine Qh ?_
   refine B_n (T_n (Qa (S_v E rfl (Qq (m := ((k + 1 : Nat) : Int)) E rfl rfl (by omega) (by omega)) rfl fun _ E1 => S_m E1 rfl rfl ?_)))
   clear E a E1; intro a E
   refine Qc (T_n ?_)
   replace S := S.reM (L' := (QY Value.bool (Qw (fun x => x) (l0.take (k + 1))))) (congrArg (QY Value.bool) (show Qw (fun x => x) (l0.take k) = Qw (fun x => x) (l0.take (k + 1)) by first | rfl | (simp [Qw]; done) | exact YT (f := (fun x => x)) (by assumption) (by assumption) | exact YA (f := (fun x => x)) (by assumption) (by assumption)))
   exact ⟨k + 1, ⟨M_2, hM_2, S, E.keep ⟨rfl, rfl, QM (i := Zu (Qw (fun x => x) (l0.take k))) rfl (by ((have h9 := cnt_y (f := (fun x => x)) (by assumption) (by assumption); omega))), rfl, rfl, trivial⟩, by (omega)⟩, by omega⟩
 ·refine Qt (T_x (T_x (B_x (T_n (Qb (Qa (S_m E rfl rfl ?_)))))))
  clear E a; intro a E
  refine S_x (Jf (k := Zu (Qw (fun x => x) (l0.take k))) E S rfl rfl rfl T22 rfl (by omega) (by (have hdl := ZD (fun x => x) (l0.take k); rw [List.length_take] at hdl; have hct := Yj (Qw (fun x => x) (l0.take k)); omega)) (by (have hdl := ZD (fun x => x) (l0.take k); rw [List.length_take] at hdl; have hct := Yj (Qw (fun x => x) (l0.take k)); omega)) ?_)
  clear E a S; rintro a w v_9 E S
  replace S := S.made0
  refine S_a E rfl rfl fun _ E1 => Qc (T_n (Qb (Qb (Qa (S_m E1 rfl rfl fun _ E2 => S_v E2 rfl (Qp E2 rfl T22 h0.len) rfl fun _ E3 => S_m E3 rfl rfl ?_)))))
  clear E a E1 E2 E3; intro a E
  refine Qc (T_n (Qi ?_))
  replace S := S.front1
  replace S := S.front1
  replace S := S.front1
  replace S := S.reM (L' := (QY Value.bool ((fdS (fun x => x) (Qw (fun x => x) (l0.take k)) (l0.take 0)).1))) (congrArg (QY Value.bool) (show Qw (fun x => x) (l0.take k) = (fdS (fun x => x) (Qw (fun x => x) (l0.take k)) (l0.take 0)).1 by first | rfl | (simp [fdS]; done) | (rw [Wc (f := (fun x => x)) (by assumption) (by assumption)]; done) | (rw [fd_n (f := (fun x => x)) (by assumption) (by assumption)]; done)))
  replace S := S.front1
  replace S := S.re1 (l' := (fdS (fun x => x) (Qw (fun x => x) (l0.take k)) (l0.take 0)).2) (by rfl)
  refine Qx (γ := Nat) (fun (j : Nat) a w => ∃ (M_10 : Hp) (u8 : Value), Hp.le M_2 M_10 ∧ St w M_10 (QR 3 u8 ((fdS (fun x => x) (Qw (fun x => x) (l0.take k)) (l0.take j)).2) :: Zw Value.bool b_1 ((fdS (fun x => x) (Qw (fun x => x) (l0.take k)) (l0.take j)).1) :: H) ∧ Env a 68 [] [(0, v0), (3, .map (some b_1)), (8, u8), (43, .int .i64 (((l0).length : Nat) : Int)), (44, .int .i64 ((j : Nat) : Int))] ∧ (j ≤ (l0).length)) (fun j => ((l0).length) - j) 0 ⟨M_2, _, Hp.le.refl _, S, E.keep ⟨rfl, rfl, rfl, rfl, rfl, trivial⟩, by (omega)⟩ ?_
  try clear E
  try clear S
  try clear a
  try clear w
  rintro j a w ⟨M_10, u8, hM_10, S, E, hL1_0⟩
  replace h0 := h0.le hM_10
  have hfl := Gw (fun x => x) (Qw (fun x => x) (l0.take k)) (l0.take j); rw [List.length_take] at hfl
  refine Qb (Qa (S_v E rfl (QG E rfl rfl) rfl ?_))
  clear E a; intro a E
  refine Qc (T_n (Qb ?_))
  refine Qn E rfl (fun hc_11 => ?_) (fun hc_11 => ?_)
  ·refine Qh (T_n (Qb (Qi (Qb (Qa (S_m E rfl rfl fun _ E1 => S_a E1 rfl rfl fun _ E2 => Qc (T_n (Qb (Qa (S_m E2 rfl rfl fun _ E3 => S_m E3 rfl rfl fun _ E4 => S_m E4 rfl rfl ?_))))))))))
   clear E a E1 E2 E3 E4; intro a E
   obtain ⟨x_12, hx_12⟩ : ∃ x, (l0)[j]? = some x := ⟨_, List.getElem?_eq_getElem (by omega)⟩
   obtain ⟨p_13, hp_13, qp_13⟩ := h0.at hx_12
   refine S_v E rfl (QB E rfl rfl T22 hp_13 rfl) rfl fun _ E1 => S_v E1 rfl (Qj E1 rfl Tryz.isAgg3 S.imm qp_13) rfl ?_
   clear E a E1; intro a E
   replace S := S.front1
   refine S_x (Uy (vf := Value.bool) (zb := false) E S rfl JU rfl rfl ?_)
   clear E a S; rintro a w E S
   replace S : St w M_10 (Zw Value.bool b_1 ((fdS (fun x => x) (Qw (fun x => x) (l0.take k)) (l0.take j)).1) :: _) := S
   refine S_a E rfl rfl fun _ E1 => Qc (T_n (Qb (Qa (S_m E1 rfl rfl ?_))))
   clear E a E1; intro a E
   refine Qc (T_n ?_)
   refine QL E rfl (fun hc_14 => ?_) (fun hc_14 => ?_)
   ·refine Qb ?_
    refine Qa (S_m E rfl rfl fun _ E1 => S_m E1 rfl rfl fun _ E2 => S_m E2 rfl rfl ?_)
    clear E a E1 E2; intro a E
    obtain ⟨p_15, hp_15, qp_15⟩ := h0.at hx_12
    refine S_v E rfl (QB E rfl rfl T22 hp_15 rfl) rfl fun _ E1 => S_v E1 rfl (Qj E1 rfl Tryz.isAgg3 S.imm qp_15) rfl ?_
    clear E a E1; intro a E
    refine S_x (Qy (ys := [x_12]) E S rfl T22 rfl rfl rfl ?_)
    clear E a S; rintro a w v_16 E S
    replace S := S.front2
    replace S := S.front1
    refine S_x (QH (xs := (fdS (fun x => x) (Qw (fun x => x) (l0.take k)) (l0.take j)).2) (ys := [x_12]) E S rfl rfl rfl T22 (by (simp only [List.length_cons, List.length_nil] at *; omega)) ?_)
    clear E a S; rintro a w v_17 E S
    refine S_a E rfl rfl fun _ E1 => Qc (T_n (Qa (S_m E1 rfl rfl fun _ E2 => S_m E2 rfl rfl fun _ E3 => S_m E3 rfl rfl ?_)))
    clear E a E1 E2 E3; intro a E
    obtain ⟨p_18, hp_18, qp_18⟩ := h0.at hx_12
    refine S_v E rfl (QB E rfl rfl T22 hp_18 rfl) rfl fun _ E1 => S_v E1 rfl (Qj E1 rfl Tryz.isAgg3 S.imm qp_18) rfl ?_
    clear E a E1; intro a E
    replace S := S.front1
    refine Zr (ZT (vf := Value.bool) (u := false) E S JU rfl rfl rfl ?_)
    clear E a S; rintro a w E S
    refine Qc (B_n (T_n (Qa (S_v E rfl (Qq (m := ((j + 1 : Nat) : Int)) E rfl rfl (by omega) (by omega)) rfl fun _ E1 => S_m E1 rfl rfl ?_))))
    clear E a E1; intro a E
    refine Qc (T_n ?_)
    replace S := S.front1
    replace S := S.front1
    replace S := S.reM (L' := (QY Value.bool ((fdS (fun x => x) (Qw (fun x => x) (l0.take k)) (l0.take (j + 1))).1))) (congrArg (QY Value.bool) (show JB ((fdS (fun x => x) (Qw (fun x => x) (l0.take k)) (l0.take j)).1) x_12 false = (fdS (fun x => x) (Qw (fun x => x) (l0.take k)) (l0.take (j + 1))).1 by first | rfl | (simp [fdS]; done) | (rw [Wc (f := (fun x => x)) (by assumption) (by assumption)]; done) | (rw [fd_n (f := (fun x => x)) (by assumption) (by assumption)]; done)))
    replace S := S.front1
    replace S := S.re1 (l' := (fdS (fun x => x) (Qw (fun x => x) (l0.take k)) (l0.take (j + 1))).2) (by (rw [Wc (f := (fun x => x)) (by assumption) (by assumption)]; done))
    exact ⟨j + 1, ⟨M_10, _, hM_10, S, E.keep ⟨rfl, rfl, rfl, rfl, rfl, trivial⟩, by (omega)⟩, by omega⟩
   ·refine Qh ?_
    refine B_n (T_n (Qa (S_v E rfl (Qq (m := ((j + 1 : Nat) : Int)) E rfl rfl (by omega) (by omega)) rfl fun _ E1 => S_m E1 rfl rfl ?_)))
    clear E a E1; intro a E
    refine Qc (T_n ?_)
    replace S := S.front1
    replace S := S.front1
    replace S := S.reM (L' := (QY Value.bool ((fdS (fun x => x) (Qw (fun x => x) (l0.take k)) (l0.take (j + 1))).1))) (congrArg (QY Value.bool) (show (fdS (fun x => x) (Qw (fun x => x) (l0.take k)) (l0.take j)).1 = (fdS (fun x => x) (Qw (fun x => x) (l0.take k)) (l0.take (j + 1))).1 by first | rfl | (simp [fdS]; done) | (rw [Wc (f := (fun x => x)) (by assumption) (by assumption)]; done) | (rw [fd_n (f := (fun x => x)) (by assumption) (by assumption)]; done)))
    replace S := S.front1
    replace S := S.re1 (l' := (fdS (fun x => x) (Qw (fun x => x) (l0.take k)) (l0.take (j + 1))).2) (by (rw [fd_n (f := (fun x => x)) (by assumption) (by assumption)]; done))
    exact ⟨j + 1, ⟨M_10, _, hM_10, S, E.keep ⟨rfl, rfl, rfl, rfl, rfl, trivial⟩, by (omega)⟩, by omega⟩
  ·refine Qt (T_x (T_x (B_x (T_n (Qb (Qa (S_m E rfl rfl fun _ E1 => S_a E1 rfl rfl ?_)))))))
   clear E a E1; intro a E
   refine Qc (T_n (Qe ?_))
   have S0 := S; clear S
   obtain ⟨M_19, hM_19, hz_20, S⟩ := S0.freezeI (by (have hfl := Gw (fun x => x) (Qw (fun x => x) (l0.take k)) (l0.take j); rw [List.length_take] at hfl; omega))
   clear S0
   exact Qg E Tryz.results141 rfl ⟨_, rfl, M_19, (hM_2.trans (hM_10.trans hM_19)), (RdS.eqL hz_20 (by (rw [List.take_of_length_le (l := l0) (i := k) (by omega), List.take_of_length_le (l := l0) (i := j) (by omega)]))), S.drop⟩
theorem WC {M : Hp} {v0 : Value} {l0 : List Int} (h0 : RdI M v0 l0) (hb : l0.length ≤ 1000000000000) :
  Pu Tryz.prog (.func (.func 53) #[] #[]) M [v0] (fun r M' => RdI M' r ((fdS (fun x => x) (Qw (fun x => x) l0) l0).2)) := by
 refine Qk Tryz.func53 rfl Tryz.ntmps53 rfl Tryz.call53 ?_
 intro a w M1 H hM1 S E
 replace h0 := h0.le hM1
 have b0 := h0.bound
 refine Qb (Qa (S_a E rfl rfl fun _ E1 => Qc (T_n (Qb (Qa (S_m E1 rfl rfl ?_))))))
 clear E a E1; intro a E
 refine S_x (Qr E S rfl rfl rfl (Gn h0 (by (omega))) (Hp.le.refl _) ?_)
 clear E a S; rintro a v_2 w M_1 hM_1 hv_2 S E
 refine S_a E rfl rfl ?_
 clear E a; intro a E
 refine Qc (T_n (Qe ?_))
 exact Qg E Tryz.results53 rfl ⟨_, rfl, M_1, hM_1, hv_2, S⟩
theorem GN {M : Hp} {v0 : Value} {l0 : List Int} (h0 : RdI M v0 l0){v1 : Value} {f1 : Int → Int} (h1 : PF1I Tryz.prog v1 M f1) (hb : l0.length ≤ 1000000000000) :
  Pu Tryz.prog (.func (.func 142) #[] #[]) M [v0, v1] (fun r M' => RdI M' r ((l0).filter (fun x => !Jk false (Qw f1 l0) (f1 x)))) := by
 refine Qk Tryz.func142 rfl Tryz.ntmps142 rfl Tryz.call142 ?_
 intro a w M1 H hM1 S E
 replace h0 := h0.le hM1
 replace h1 := h1.le hM1
 have b0 := h0.bound
 refine Qb (Qa (S_a E rfl rfl fun _ E1 => Qc (T_n (Qb (Qa (S_m E1 rfl rfl fun _ E2 => S_v E2 rfl (Qp E2 rfl T22 h0.len) rfl ?_))))))
 clear E a E1 E2; intro a E
 refine S_x (ZB E S rfl JU rfl ?_)
 clear E a S; rintro a w b_1 E S
 replace S : St w M1 (Zw Value.bool b_1 ([] : List (Int × Bool)) :: _) := S
 refine S_a E rfl rfl fun _ E1 => Qc (T_n (Qb (Qa (S_a E1 rfl rfl fun _ E2 => Qc (T_n (Qb (Qb (Qa (S_m E2 rfl rfl fun _ E3 => S_v E3 rfl (Qp E3 rfl T22 h0.len) rfl fun _ E4 => S_m E4 rfl rfl ?_)))))))))
 clear E a E1 E2 E3 E4; intro a E
 refine Qc (T_n (Qi ?_))
 replace S := S.reM (L' := (QY Value.bool (Qw f1 (l0.take 0)))) (congrArg (QY Value.bool) (show ([] : List (Int × Bool)) = Qw f1 (l0.take 0) by first | rfl | (simp [Qw]; done) | exact YT (f := f1) (by assumption) (by assumption) | exact YA (f := f1) (by assumption) (by assumption)))
 refine Qx (γ := Nat) (fun (k : Nat) a w => ∃ (M_2 : Hp), Hp.le M1 M_2 ∧ St w M_2 (Zw Value.bool b_1 (Qw f1 (l0.take k)) :: H) ∧ Env a 74 [] [(0, v0), (1, v1), (5, .map (some b_1)), (6, .int .i64 ((Zu (Qw f1 (l0.take k)) : Nat) : Int)), (19, .int .i64 (((l0).length : Nat) : Int)), (20, .int .i64 ((k : Nat) : Int))] ∧ (k ≤ (l0).length)) (fun k => ((l0).length) - k) 0 ⟨M1, Hp.le.refl _, S, E.keep ⟨rfl, rfl, rfl, QM (i := 0) rfl (by (simp [Qw, Zu])), rfl, rfl, trivial⟩, by (omega)⟩ ?_
 try clear E
 try clear S
 try clear a
 try clear w
 rintro k a w ⟨M_2, hM_2, S, E, hL0_0⟩
 replace h0 := h0.le hM_2
 replace h1 := h1.le hM_2
 have hdl := ZD f1 (l0.take k); rw [List.length_take] at hdl
 have hct := Yj (Qw f1 (l0.take k))
 refine Qb (Qa (S_v E rfl (QG E rfl rfl) rfl ?_))
 clear E a; intro a E
 refine Qc (T_n (Qb ?_))
 refine Qn E rfl (fun hc_3 => ?_) (fun hc_3 => ?_)
 ·refine Qh (T_n (Qb (Qi (Qb (Qa (S_m E rfl rfl fun _ E1 => S_a E1 rfl rfl fun _ E2 => Qc (T_n (Qb (Qa (S_m E2 rfl rfl fun _ E3 => S_m E3 rfl rfl fun _ E4 => S_m E4 rfl rfl ?_))))))))))
  clear E a E1 E2 E3 E4; intro a E
  obtain ⟨x_4, hx_4⟩ : ∃ x, (l0)[k]? = some x := ⟨_, List.getElem?_eq_getElem (by omega)⟩
  obtain ⟨p_5, hp_5, qp_5⟩ := h0.at hx_4
  refine S_v E rfl (QB E rfl rfl T22 hp_5 rfl) rfl fun _ E1 => S_v E1 rfl (Qj E1 rfl Tryz.isAgg3 S.imm qp_5) rfl ?_
  clear E a E1; intro a E
  refine S_x (Qr E S rfl rfl rfl (h1.2 x_4) (Hp.le.refl _) ?_)
  clear E a S; rintro a _ w M_6 hM_6 rfl S E
  replace h0 := h0.le hM_6
  replace h1 := h1.le hM_6
  refine S_a E rfl rfl fun _ E1 => Qc (T_n (Qb (Qa (S_m E1 rfl rfl fun _ E2 => S_m E2 rfl rfl ?_))))
  clear E a E1 E2; intro a E
  refine S_x (Yo (vf := Value.bool) (zb := false) E S rfl JU rfl rfl ?_)
  clear E a S; rintro a w E S
  replace S : St w M_6 (Zw Value.bool b_1 (Qw f1 (l0.take k)) :: _) := S
  refine S_m E rfl rfl fun _ E1 => S_v E1 rfl (Qm E1 rfl rfl) rfl fun _ E2 => S_v E2 rfl (Qm E2 rfl rfl) rfl fun _ E3 => S_a E3 rfl rfl fun _ E4 => S_a E4 rfl rfl fun _ E5 => Qc (T_n (Qb (Qa (S_m E5 rfl rfl ?_))))
  clear E a E1 E2 E3 E4 E5; intro a E
  refine S_v E rfl (Zk E rfl) rfl ?_
  clear E a; intro a E
  refine Qc (T_n ?_)
  refine QL E rfl (fun hc_7 => ?_) (fun hc_7 => ?_)
  ·refine Qb ?_
   refine Qa (S_m E rfl rfl fun _ E1 => S_m E1 rfl rfl fun _ E2 => S_m E2 rfl rfl ?_)
   clear E a E1 E2; intro a E
   refine Zr (ZT (vf := Value.bool) (u := JI (Qw f1 (l0.take k)) (f1 x_4)) E S JU rfl rfl rfl ?_)
   clear E a S; rintro a w E S
   refine Qc (T_n (Qb (Qa (S_m E rfl rfl ?_))))
   clear E a; intro a E
   refine Qc (T_n ?_)
   refine QL E rfl (fun hc_8 => ?_) (fun hc_8 => ?_)
   ·refine Qa ?_
    refine S_m E rfl rfl fun _ E1 => S_v E1 rfl (Qq (m := ((Zu (Qw f1 (l0.take k)) + 1 : Nat) : Int)) E1 rfl rfl (by omega) (by omega)) rfl fun _ E2 => S_a E2 rfl rfl fun _ E3 => Qc (B_n (T_n (Qa (S_v E3 rfl (Qq (m := ((k + 1 : Nat) : Int)) E3 rfl rfl (by omega) (by omega)) rfl fun _ E4 => S_m E4 rfl rfl ?_))))
    clear E a E1 E2 E3 E4; intro a E
    refine Qc (T_n ?_)
    replace S := S.reM (L' := (QY Value.bool (Qw f1 (l0.take (k + 1))))) (congrArg (QY Value.bool) (show JB (Qw f1 (l0.take k)) (f1 x_4) (JI (Qw f1 (l0.take k)) (f1 x_4)) = Qw f1 (l0.take (k + 1)) by first | rfl | (simp [Qw]; done) | exact YT (f := f1) (by assumption) (by assumption) | exact YA (f := f1) (by assumption) (by assumption)))
    exact ⟨k + 1, ⟨M_6, (hM_2.trans hM_6), S, E.keep ⟨rfl, rfl, rfl, QM (i := Zu (Qw f1 (l0.take k)) + 1) rfl (by ((have h9 := cnt_i (f := f1) (by assumption) (by assumption) (by assumption); omega))), rfl, rfl, trivial⟩, by (omega)⟩, by omega⟩
   ·refine Qh ?_
    refine B_n (T_n (Qa (S_v E rfl (Qq (m := ((k + 1 : Nat) : Int)) E rfl rfl (by omega) (by omega)) rfl fun _ E1 => S_m E1 rfl rfl ?_)))
    clear E a E1; intro a E
    refine Qc (T_n ?_)
    replace S := S.reM (L' := (QY Value.bool (Qw f1 (l0.take (k + 1))))) (congrArg (QY Value.bool) (show JB (Qw f1 (l0.take k)) (f1 x_4) (JI (Qw f1 (l0.take k)) (f1 x_4)) = Qw f1 (l0.take (k + 1)) by first | rfl | (simp [Qw]; done) | exact YT (f := f1) (by assumption) (by assumption) | exact YA (f := f1) (by assumption) (by assumption)))
    exact ⟨k + 1, ⟨M_6, (hM_2.trans hM_6), S, E.keep ⟨rfl, rfl, rfl, QM (i := Zu (Qw f1 (l0.take k))) rfl (by ((have h9 := cnt_n (f := f1) (by assumption) (by assumption) (by assumption); omega))), rfl, rfl, trivial⟩, by (omega)⟩, by omega⟩
  ·refine Qh ?_
   refine B_n (T_n (Qa (S_v E rfl (Qq (m := ((k + 1 : Nat) : Int)) E rfl rfl (by omega) (by omega)) rfl fun _ E1 => S_m E1 rfl rfl ?_)))
   clear E a E1; intro a E
   refine Qc (T_n ?_)
   replace S := S.reM (L' := (QY Value.bool (Qw f1 (l0.take (k + 1))))) (congrArg (QY Value.bool) (show Qw f1 (l0.take k) = Qw f1 (l0.take (k + 1)) by first | rfl | (simp [Qw]; done) | exact YT (f := f1) (by assumption) (by assumption) | exact YA (f := f1) (by assumption) (by assumption)))
   exact ⟨k + 1, ⟨M_6, (hM_2.trans hM_6), S, E.keep ⟨rfl, rfl, rfl, QM (i := Zu (Qw f1 (l0.take k))) rfl (by ((have h9 := cnt_y (f := f1) (by assumption) (by assumption); omega))), rfl, rfl, trivial⟩, by (omega)⟩, by omega⟩
 ·refine Qt (T_x (T_x (B_x (T_n (Qb (Qa (S_m E rfl rfl fun _ E1 => S_v E1 rfl ((jd E1 S JU rfl).trans (by rw [Wd])) rfl fun _ E2 => S_m E2 rfl rfl fun _ E3 => S_v E3 rfl (Jg (m := (((Qw f1 (l0.take k)).length - (Zu (Qw f1 (l0.take k))) : Nat) : Int)) E3 rfl rfl (by omega) (by omega)) rfl ?_)))))))
  clear E a E1 E2 E3; intro a E
  refine S_x (Jf (k := (Qw f1 (l0.take k)).length - (Zu (Qw f1 (l0.take k)))) E S rfl rfl rfl T22 rfl (by omega) (by (have hdl := ZD f1 (l0.take k); rw [List.length_take] at hdl; have hct := Yj (Qw f1 (l0.take k)); omega)) (by (have hdl := ZD f1 (l0.take k); rw [List.length_take] at hdl; have hct := Yj (Qw f1 (l0.take k)); omega)) ?_)
  clear E a S; rintro a w v_9 E S
  replace S := S.made0
  refine S_a E rfl rfl fun _ E1 => Qc (T_n (Qb (Qb (Qa (S_m E1 rfl rfl fun _ E2 => S_v E2 rfl (Qp E2 rfl T22 h0.len) rfl fun _ E3 => S_m E3 rfl rfl ?_)))))
  clear E a E1 E2 E3; intro a E
  refine Qc (T_n (Qi ?_))
  replace S := S.front1
  replace S := S.front1
  replace S := S.front1
  replace S := S.front1
  replace S := S.re1 (l' := (l0.take 0).filter (fun x => !Jk false (Qw f1 (l0.take k)) (f1 x))) (by rfl)
  refine Qx (γ := Nat) (fun (j : Nat) a w => ∃ (M_10 : Hp) (u11 : Value), Hp.le M_2 M_10 ∧ St w M_10 (QR 3 u11 ((l0.take j).filter (fun x => !Jk false (Qw f1 (l0.take k)) (f1 x))) :: Zw Value.bool b_1 (Qw f1 (l0.take k)) :: H) ∧ Env a 74 [] [(0, v0), (1, v1), (5, .map (some b_1)), (11, u11), (50, .int .i64 (((l0).length : Nat) : Int)), (51, .int .i64 ((j : Nat) : Int))] ∧ (j ≤ (l0).length)) (fun j => ((l0).length) - j) 0 ⟨M_2, _, Hp.le.refl _, S, E.keep ⟨rfl, rfl, rfl, rfl, rfl, rfl, trivial⟩, by (omega)⟩ ?_
  try clear E
  try clear S
  try clear a
  try clear w
  rintro j a w ⟨M_10, u11, hM_10, S, E, hL1_0⟩
  replace h0 := h0.le hM_10
  replace h1 := h1.le hM_10
  have hfl := List.length_filter_le (fun x => !Jk false (Qw f1 (l0.take k)) (f1 x)) (l0.take j); rw [List.length_take] at hfl
  refine Qb (Qa (S_v E rfl (QG E rfl rfl) rfl ?_))
  clear E a; intro a E
  refine Qc (T_n (Qb ?_))
  refine Qn E rfl (fun hc_11 => ?_) (fun hc_11 => ?_)
  ·refine Qh (T_n (Qb (Qi (Qb (Qa (S_m E rfl rfl fun _ E1 => S_a E1 rfl rfl fun _ E2 => Qc (T_n (Qb (Qa (S_m E2 rfl rfl fun _ E3 => S_m E3 rfl rfl fun _ E4 => S_m E4 rfl rfl ?_))))))))))
   clear E a E1 E2 E3 E4; intro a E
   obtain ⟨x_12, hx_12⟩ : ∃ x, (l0)[j]? = some x := ⟨_, List.getElem?_eq_getElem (by omega)⟩
   obtain ⟨p_13, hp_13, qp_13⟩ := h0.at hx_12
   refine S_v E rfl (QB E rfl rfl T22 hp_13 rfl) rfl fun _ E1 => S_v E1 rfl (Qj E1 rfl Tryz.isAgg3 S.imm qp_13) rfl ?_
   clear E a E1; intro a E
   refine S_x (Qr E S rfl rfl rfl (h1.2 x_12) (Hp.le.refl _) ?_)
   clear E a S; rintro a _ w M_14 hM_14 rfl S E
   replace h0 := h0.le hM_14
   refine S_a E rfl rfl fun _ E1 => Qc (T_n (Qb (Qa (S_m E1 rfl rfl fun _ E2 => S_m E2 rfl rfl ?_))))
   clear E a E1 E2; intro a E
   replace S := S.front1
   refine S_x (Uy (vf := Value.bool) (zb := false) E S rfl JU rfl rfl ?_)
   clear E a S; rintro a w E S
   replace S : St w M_14 (Zw Value.bool b_1 (Qw f1 (l0.take k)) :: _) := S
   refine S_a E rfl rfl fun _ E1 => Qc (T_n (Qb (Qa (S_m E1 rfl rfl fun _ E2 => S_v E2 rfl (Zk E2 rfl) rfl ?_))))
   clear E a E1 E2; intro a E
   refine Qc (T_n ?_)
   refine QL E rfl (fun hc_15 => ?_) (fun hc_15 => ?_)
   ·refine Qa ?_
    refine S_m E rfl rfl fun _ E1 => S_m E1 rfl rfl fun _ E2 => S_m E2 rfl rfl ?_
    clear E a E1 E2; intro a E
    obtain ⟨p_16, hp_16, qp_16⟩ := h0.at hx_12
    refine S_v E rfl (QB E rfl rfl T22 hp_16 rfl) rfl fun _ E1 => S_v E1 rfl (Qj E1 rfl Tryz.isAgg3 S.imm qp_16) rfl ?_
    clear E a E1; intro a E
    refine S_x (Qy (ys := [x_12]) E S rfl T22 rfl rfl rfl ?_)
    clear E a S; rintro a w v_17 E S
    replace S := S.front2
    replace S := S.front1
    refine S_x (QH (xs := (l0.take j).filter (fun x => !Jk false (Qw f1 (l0.take k)) (f1 x))) (ys := [x_12]) E S rfl rfl rfl T22 (by (simp only [List.length_cons, List.length_nil] at *; omega)) ?_)
    clear E a S; rintro a w v_18 E S
    refine S_a E rfl rfl fun _ E1 => Qc (B_n (T_n (Qa (S_v E1 rfl (Qq (m := ((j + 1 : Nat) : Int)) E1 rfl rfl (by omega) (by omega)) rfl fun _ E2 => S_m E2 rfl rfl ?_))))
    clear E a E1 E2; intro a E
    refine Qc (T_n ?_)
    replace S := S.front1
    replace S := S.front1
    replace S := S.re1 (l' := (l0.take (j + 1)).filter (fun x => !Jk false (Qw f1 (l0.take k)) (f1 x))) (by exact flt1_yes (f := fun x => !Jk false (Qw f1 (l0.take k)) (f1 x)) (by assumption) (by assumption))
    exact ⟨j + 1, ⟨M_14, _, (hM_10.trans hM_14), S, E.keep ⟨rfl, rfl, rfl, rfl, rfl, rfl, trivial⟩, by (omega)⟩, by omega⟩
   ·refine Qh ?_
    refine B_n (T_n (Qa (S_v E rfl (Qq (m := ((j + 1 : Nat) : Int)) E rfl rfl (by omega) (by omega)) rfl fun _ E1 => S_m E1 rfl rfl ?_)))
    clear E a E1; intro a E
    refine Qc (T_n ?_)
    replace S := S.front1
    replace S := S.front1
    replace S := S.front1
    replace S := S.re1 (l' := (l0.take (j + 1)).filter (fun x => !Jk false (Qw f1 (l0.take k)) (f1 x))) (by exact flt1_no (f := fun x => !Jk false (Qw f1 (l0.take k)) (f1 x)) (by assumption) (by assumption))
    exact ⟨j + 1, ⟨M_14, _, (hM_10.trans hM_14), S, E.keep ⟨rfl, rfl, rfl, rfl, rfl, rfl, trivial⟩, by (omega)⟩, by omega⟩
  ·refine Qt (T_x (T_x (B_x (T_n (Qb (Qa (S_m E rfl rfl fun _ E1 => S_a E1 rfl rfl ?_)))))))
   clear E a E1; intro a E
   refine Qc (T_n (Qe ?_))
   have S0 := S; clear S
   obtain ⟨M_19, hM_19, hz_20, S⟩ := S0.freezeI (by (have hfl := List.length_filter_le (fun x => !Jk false (Qw f1 (l0.take k)) (f1 x)) (l0.take j); rw [List.length_take] at hfl; omega))
   clear S0
   exact Qg E Tryz.results142 rfl ⟨_, rfl, M_19, (hM_2.trans (hM_10.trans hM_19)), (RdS.eqL hz_20 (by (rw [List.take_of_length_le (l := l0) (i := k) (by omega), List.take_of_length_le (l := l0) (i := j) (by omega)]))), S.drop⟩
theorem WT {M : Hp} {v0 : Value} {l0 : List Int} (h0 : RdI M v0 l0){kk1 kn1 : Int} (gk1 : -9223372036854775808 ≤ kn1 ∧ kn1 ≤ 9223372036854775807) (hb : l0.length ≤ 1000000000000) :
  Pu Tryz.prog (.func (.func 54) #[] #[]) M [v0, .agg #[.int .i64 kk1, .int .i64 kn1]] (fun r M' => RdI M' r ((l0).filter (fun x => !Jk false (Qw (fun x => Qs kk1 kn1 x 0) l0) ((fun x => Qs kk1 kn1 x 0) x)))) := by
 refine Qk Tryz.func54 rfl Tryz.ntmps54 rfl Tryz.call54 ?_
 intro a w M1 H hM1 S E
 replace h0 := h0.le hM1
 have b0 := h0.bound
 have hfl := List.length_filter_le (fun x => !Jk false (Qw (fun x => Qs kk1 kn1 x 0) l0) ((fun x => Qs kk1 kn1 x 0) x)) l0
 refine Qb (Qa ?_)
 refine S_x (Jc (cs := #[.int .i64 kk1, .int .i64 kn1]) E S rfl rfl rfl ?_)
 clear E a S; rintro a w b_1 E S
 obtain ⟨M_2, hM_2, hb_1, S⟩ := S.freezeB
 replace h0 := h0.le hM_2
 refine S_a E rfl rfl fun _ E1 => Qc (T_n (Qb (Qa (S_m E1 rfl rfl fun _ E2 => S_v E2 rfl (QA E2 rfl (Tryz.isAgg30 _) (Tryz.sizeOf30 _) S.imm hb_1) rfl fun _ E3 => S_v E3 rfl (QT E3 rfl rfl) rfl ?_))))
 clear E a E1 E2 E3; intro a E
 refine S_x (Qr E S rfl rfl rfl (GN h0 ⟨rfl, fun zx1 => je (x1 := zx1) (by omega)⟩ (by (omega))) (Hp.le.refl _) ?_)
 clear E a S; rintro a v_4 w M_3 hM_3 hv_4 S E
 refine S_a E rfl rfl ?_
 clear E a; intro a E
 refine Qc (T_n (Qe ?_))
 exact Qg E Tryz.results54 rfl ⟨_, rfl, M_3, (hM_2.trans hM_3), hv_4, S⟩
theorem WB {M : Hp} {v0 : Value} {l0 : List Int} (h0 : RdI M v0 l0){v1 : Value} {f1 : Int → Int} (h1 : PF1I Tryz.prog v1 M f1) (hb : l0.length ≤ 1000000000000) :
  Pu Tryz.prog (.func (.func 143) #[] #[]) M [v0, v1] (fun r M' => RdI M' r ((fdS f1 (Qw f1 l0) l0).2)) := by
 refine Qk Tryz.func143 rfl Tryz.ntmps143 rfl Tryz.call143 ?_
 intro a w M1 H hM1 S E
 replace h0 := h0.le hM1
 replace h1 := h1.le hM1
 have b0 := h0.bound
 refine Qb (Qa (S_a E rfl rfl fun _ E1 => Qc (T_n (Qb (Qa (S_m E1 rfl rfl fun _ E2 => S_v E2 rfl (Qp E2 rfl T22 h0.len) rfl ?_))))))
 clear E a E1 E2; intro a E
 refine S_x (ZB E S rfl JU rfl ?_)
 clear E a S; rintro a w b_1 E S
 replace S : St w M1 (Zw Value.bool b_1 ([] : List (Int × Bool)) :: _) := S
 refine S_a E rfl rfl fun _ E1 => Qc (T_n (Qb (Qa (S_a E1 rfl rfl fun _ E2 => Qc (T_n (Qb (Qb (Qa (S_m E2 rfl rfl fun _ E3 => S_v E3 rfl (Qp E3 rfl T22 h0.len) rfl fun _ E4 => S_m E4 rfl rfl ?_)))))))))
 clear E a E1 E2 E3 E4; intro a E
 refine Qc (T_n (Qi ?_))
 replace S := S.reM (L' := (QY Value.bool (Qw f1 (l0.take 0)))) (congrArg (QY Value.bool) (show ([] : List (Int × Bool)) = Qw f1 (l0.take 0) by first | rfl | (simp [Qw]; done) | exact YT (f := f1) (by assumption) (by assumption) | exact YA (f := f1) (by assumption) (by assumption)))
 refine Qx (γ := Nat) (fun (k : Nat) a w => ∃ (M_2 : Hp), Hp.le M1 M_2 ∧ St w M_2 (Zw Value.bool b_1 (Qw f1 (l0.take k)) :: H) ∧ Env a 72 [] [(0, v0), (1, v1), (5, .map (some b_1)), (6, .int .i64 ((Zu (Qw f1 (l0.take k)) : Nat) : Int)), (19, .int .i64 (((l0).length : Nat) : Int)), (20, .int .i64 ((k : Nat) : Int))] ∧ (k ≤ (l0).length)) (fun k => ((l0).length) - k) 0 ⟨M1, Hp.le.refl _, S, E.keep ⟨rfl, rfl, rfl, QM (i := 0) rfl (by (simp [Qw, Zu])), rfl, rfl, trivial⟩, by (omega)⟩ ?_
 try clear E
 try clear S
 try clear a
 try clear w
 rintro k a w ⟨M_2, hM_2, S, E, hL0_0⟩
 replace h0 := h0.le hM_2
 replace h1 := h1.le hM_2
 have hdl := ZD f1 (l0.take k); rw [List.length_take] at hdl
 have hct := Yj (Qw f1 (l0.take k))
 refine Qb (Qa (S_v E rfl (QG E rfl rfl) rfl ?_))
 clear E a; intro a E
 refine Qc (T_n (Qb ?_))
 refine Qn E rfl (fun hc_3 => ?_) (fun hc_3 => ?_)
 ·refine Qh (T_n (Qb (Qi (Qb (Qa (S_m E rfl rfl fun _ E1 => S_a E1 rfl rfl fun _ E2 => Qc (T_n (Qb (Qa (S_m E2 rfl rfl fun _ E3 => S_m E3 rfl rfl fun _ E4 => S_m E4 rfl rfl ?_))))))))))
  clear E a E1 E2 E3 E4; intro a E
  obtain ⟨x_4, hx_4⟩ : ∃ x, (l0)[k]? = some x := ⟨_, List.getElem?_eq_getElem (by omega)⟩
  obtain ⟨p_5, hp_5, qp_5⟩ := h0.at hx_4
  refine S_v E rfl (QB E rfl rfl T22 hp_5 rfl) rfl fun _ E1 => S_v E1 rfl (Qj E1 rfl Tryz.isAgg3 S.imm qp_5) rfl ?_
  clear E a E1; intro a E
  refine S_x (Qr E S rfl rfl rfl (h1.2 x_4) (Hp.le.refl _) ?_)
  clear E a S; rintro a _ w M_6 hM_6 rfl S E
  replace h0 := h0.le hM_6
  replace h1 := h1.le hM_6
  refine S_a E rfl rfl fun _ E1 => Qc (T_n (Qb (Qa (S_m E1 rfl rfl fun _ E2 => S_m E2 rfl rfl ?_))))
  clear E a E1 E2; intro a E
  refine S_x (Yo (vf := Value.bool) (zb := false) E S rfl JU rfl rfl ?_)
  clear E a S; rintro a w E S
  replace S : St w M_6 (Zw Value.bool b_1 (Qw f1 (l0.take k)) :: _) := S
  refine S_m E rfl rfl fun _ E1 => S_v E1 rfl (Qm E1 rfl rfl) rfl fun _ E2 => S_v E2 rfl (Qm E2 rfl rfl) rfl fun _ E3 => S_a E3 rfl rfl fun _ E4 => S_a E4 rfl rfl fun _ E5 => Qc (T_n (Qb (Qa (S_m E5 rfl rfl ?_))))
  clear E a E1 E2 E3 E4 E5; intro a E
  refine S_v E rfl (Zk E rfl) rfl ?_
  clear E a; intro a E
  refine Qc (T_n ?_)
  refine QL E rfl (fun hc_7 => ?_) (fun hc_7 => ?_)
  ·refine Qb ?_
   refine Qa (S_m E rfl rfl fun _ E1 => S_m E1 rfl rfl fun _ E2 => S_m E2 rfl rfl ?_)
   clear E a E1 E2; intro a E
   refine Zr (ZT (vf := Value.bool) (u := JI (Qw f1 (l0.take k)) (f1 x_4)) E S JU rfl rfl rfl ?_)
   clear E a S; rintro a w E S
   refine Qc (T_n (Qb (Qa (S_m E rfl rfl ?_))))
   clear E a; intro a E
   refine Qc (T_n ?_)
   refine QL E rfl (fun hc_8 => ?_) (fun hc_8 => ?_)
   ·refine Qa ?_
    refine S_m E rfl rfl fun _ E1 => S_v E1 rfl (Qq (m := ((Zu (Qw f1 (l0.take k)) + 1 : Nat) : Int)) E1 rfl rfl (by omega) (by omega)) rfl fun _ E2 => S_a E2 rfl rfl fun _ E3 => Qc (B_n (T_n (Qa (S_v E3 rfl (Qq (m := ((k + 1 : Nat) : Int)) E3 rfl rfl (by omega) (by omega)) rfl fun _ E4 => S_m E4 rfl rfl ?_))))
    clear E a E1 E2 E3 E4; intro a E
    refine Qc (T_n ?_)
    replace S := S.reM (L' := (QY Value.bool (Qw f1 (l0.take (k + 1))))) (congrArg (QY Value.bool) (show JB (Qw f1 (l0.take k)) (f1 x_4) (JI (Qw f1 (l0.take k)) (f1 x_4)) = Qw f1 (l0.take (k + 1)) by first | rfl | (simp [Qw]; done) | exact YT (f := f1) (by assumption) (by assumption) | exact YA (f := f1) (by assumption) (by assumption)))
    exact ⟨k + 1, ⟨M_6, (hM_2.trans hM_6), S, E.keep ⟨rfl, rfl, rfl, QM (i := Zu (Qw f1 (l0.take k)) + 1) rfl (by ((have h9 := cnt_i (f := f1) (by assumption) (by assumption) (by assumption); omega))), rfl, rfl, trivial⟩, by (omega)⟩, by omega⟩
   ·refine Qh ?_
    refine B_n (T_n (Qa (S_v E rfl (Qq (m := ((k + 1 : Nat) : Int)) E rfl rfl (by omega) (by omega)) rfl fun _ E1 => S_m E1 rfl rfl ?_)))
    clear E a E1; intro a E
    refine Qc (T_n ?_)
    replace S := S.reM (L' := (QY Value.bool (Qw f1 (l0.take (k + 1))))) (congrArg (QY Value.bool) (show JB (Qw f1 (l0.take k)) (f1 x_4) (JI (Qw f1 (l0.take k)) (f1 x_4)) = Qw f1 (l0.take (k + 1)) by first | rfl | (simp [Qw]; done) | exact YT (f := f1) (by assumption) (by assumption) | exact YA (f := f1) (by assumption) (by assumption)))
    exact ⟨k + 1, ⟨M_6, (hM_2.trans hM_6), S, E.keep ⟨rfl, rfl, rfl, QM (i := Zu (Qw f1 (l0.take k))) rfl (by ((have h9 := cnt_n (f := f1) (by assumption) (by assumption) (by assumption); omega))), rfl, rfl, trivial⟩, by (omega)⟩, by omega⟩
  ·refine Qh ?_
   refine B_n (T_n (Qa (S_v E rfl (Qq (m := ((k + 1 : Nat) : Int)) E rfl rfl (by omega) (by omega)) rfl fun _ E1 => S_m E1 rfl rfl ?_)))
   clear E a E1; intro a E
   refine Qc (T_n ?_)
   replace S := S.reM (L' := (QY Value.bool (Qw f1 (l0.take (k + 1))))) (congrArg (QY Value.bool) (show Qw f1 (l0.take k) = Qw f1 (l0.take (k + 1)) by first | rfl | (simp [Qw]; done) | exact YT (f := f1) (by assumption) (by assumption) | exact YA (f := f1) (by assumption) (by assumption)))
   exact ⟨k + 1, ⟨M_6, (hM_2.trans hM_6), S, E.keep ⟨rfl, rfl, rfl, QM (i := Zu (Qw f1 (l0.take k))) rfl (by ((have h9 := cnt_y (f := f1) (by assumption) (by assumption); omega))), rfl, rfl, trivial⟩, by (omega)⟩, by omega⟩
 ·refine Qt (T_x (T_x (B_x (T_n (Qb (Qa (S_m E rfl rfl ?_)))))))
  clear E a; intro a E
  refine S_x (Jf (k := Zu (Qw f1 (l0.take k))) E S rfl rfl rfl T22 rfl (by omega) (by (have hdl := ZD f1 (l0.take k); rw [List.length_take] at hdl; have hct := Yj (Qw f1 (l0.take k)); omega)) (by (have hdl := ZD f1 (l0.take k); rw [List.length_take] at hdl; have hct := Yj (Qw f1 (l0.take k)); omega)) ?_)
  clear E a S; rintro a w v_9 E S
  replace S := S.made0
  refine S_a E rfl rfl fun _ E1 => Qc (T_n (Qb (Qb (Qa (S_m E1 rfl rfl fun _ E2 => S_v E2 rfl (Qp E2 rfl T22 h0.len) rfl fun _ E3 => S_m E3 rfl rfl ?_)))))
  clear E a E1 E2 E3; intro a E
  refine Qc (T_n (Qi ?_))
  replace S := S.front1
  replace S := S.front1
  replace S := S.front1
  replace S := S.reM (L' := (QY Value.bool ((fdS f1 (Qw f1 (l0.take k)) (l0.take 0)).1))) (congrArg (QY Value.bool) (show Qw f1 (l0.take k) = (fdS f1 (Qw f1 (l0.take k)) (l0.take 0)).1 by first | rfl | (simp [fdS]; done) | (rw [Wc (f := f1) (by assumption) (by assumption)]; done) | (rw [fd_n (f := f1) (by assumption) (by assumption)]; done)))
  replace S := S.front1
  replace S := S.re1 (l' := (fdS f1 (Qw f1 (l0.take k)) (l0.take 0)).2) (by rfl)
  refine Qx (γ := Nat) (fun (j : Nat) a w => ∃ (M_10 : Hp) (u11 : Value), Hp.le M_2 M_10 ∧ St w M_10 (QR 3 u11 ((fdS f1 (Qw f1 (l0.take k)) (l0.take j)).2) :: Zw Value.bool b_1 ((fdS f1 (Qw f1 (l0.take k)) (l0.take j)).1) :: H) ∧ Env a 72 [] [(0, v0), (1, v1), (5, .map (some b_1)), (11, u11), (47, .int .i64 (((l0).length : Nat) : Int)), (48, .int .i64 ((j : Nat) : Int))] ∧ (j ≤ (l0).length)) (fun j => ((l0).length) - j) 0 ⟨M_2, _, Hp.le.refl _, S, E.keep ⟨rfl, rfl, rfl, rfl, rfl, rfl, trivial⟩, by (omega)⟩ ?_
  try clear E
  try clear S
  try clear a
  try clear w
  rintro j a w ⟨M_10, u11, hM_10, S, E, hL1_0⟩
  replace h0 := h0.le hM_10
  replace h1 := h1.le hM_10
  have hfl := Gw f1 (Qw f1 (l0.take k)) (l0.take j); rw [List.length_take] at hfl
  refine Qb (Qa (S_v E rfl (QG E rfl rfl) rfl ?_))
  clear E a; intro a E
  refine Qc (T_n (Qb ?_))
  refine Qn E rfl (fun hc_11 => ?_) (fun hc_11 => ?_)
  ·refine Qh (T_n (Qb (Qi (Qb (Qa (S_m E rfl rfl fun _ E1 => S_a E1 rfl rfl fun _ E2 => Qc (T_n (Qb (Qa (S_m E2 rfl rfl fun _ E3 => S_m E3 rfl rfl fun _ E4 => S_m E4 rfl rfl ?_))))))))))
   clear E a E1 E2 E3 E4; intro a E
   obtain ⟨x_12, hx_12⟩ : ∃ x, (l0)[j]? = some x := ⟨_, List.getElem?_eq_getElem (by omega)⟩
   obtain ⟨p_13, hp_13, qp_13⟩ := h0.at hx_12
   refine S_v E rfl (QB E rfl rfl T22 hp_13 rfl) rfl fun _ E1 => S_v E1 rfl (Qj E1 rfl Tryz.isAgg3 S.imm qp_13) rfl ?_
   clear E a E1; intro a E
   refine S_x (Qr E S rfl rfl rfl (h1.2 x_12) (Hp.le.refl _) ?_)
   clear E a S; rintro a _ w M_14 hM_14 rfl S E
   replace h0 := h0.le hM_14
   refine S_a E rfl rfl fun _ E1 => Qc (T_n (Qb (Qa (S_m E1 rfl rfl fun _ E2 => S_m E2 rfl rfl ?_))))
   clear E a E1 E2; intro a E
   replace S := S.front1
   refine S_x (Uy (vf := Value.bool) (zb := false) E S rfl JU rfl rfl ?_)
   clear E a S; rintro a w E S
   replace S : St w M_14 (Zw Value.bool b_1 ((fdS f1 (Qw f1 (l0.take k)) (l0.take j)).1) :: _) := S
   refine S_a E rfl rfl fun _ E1 => Qc (T_n (Qb (Qa (S_m E1 rfl rfl ?_))))
   clear E a E1; intro a E
   refine Qc (T_n ?_)
   refine QL E rfl (fun hc_15 => ?_) (fun hc_15 => ?_)
   ·refine Qb ?_
    refine Qa (S_m E rfl rfl fun _ E1 => S_m E1 rfl rfl fun _ E2 => S_m E2 rfl rfl ?_)
    clear E a E1 E2; intro a E
    obtain ⟨p_16, hp_16, qp_16⟩ := h0.at hx_12
    refine S_v E rfl (QB E rfl rfl T22 hp_16 rfl) rfl fun _ E1 => S_v E1 rfl (Qj E1 rfl Tryz.isAgg3 S.imm qp_16) rfl ?_
    clear E a E1; intro a E
    refine S_x (Qy (ys := [x_12]) E S rfl T22 rfl rfl rfl ?_)
    clear E a S; rintro a w v_17 E S
    replace S := S.front2
    replace S := S.front1
    refine S_x (QH (xs := (fdS f1 (Qw f1 (l0.take k)) (l0.take j)).2) (ys := [x_12]) E S rfl rfl rfl T22 (by (simp only [List.length_cons, List.length_nil] at *; omega)) ?_)
    clear E a S; rintro a w v_18 E S
    refine S_a E rfl rfl fun _ E1 => Qc (T_n (Qa (S_m E1 rfl rfl fun _ E2 => S_m E2 rfl rfl ?_)))
    clear E a E1 E2; intro a E
    replace S := S.front1
    refine Zr (ZT (vf := Value.bool) (u := false) E S JU rfl rfl rfl ?_)
    clear E a S; rintro a w E S
    refine Qc (B_n (T_n (Qa (S_v E rfl (Qq (m := ((j + 1 : Nat) : Int)) E rfl rfl (by omega) (by omega)) rfl fun _ E1 => S_m E1 rfl rfl ?_))))
    clear E a E1; intro a E
    refine Qc (T_n ?_)
    replace S := S.front1
    replace S := S.front1
    replace S := S.reM (L' := (QY Value.bool ((fdS f1 (Qw f1 (l0.take k)) (l0.take (j + 1))).1))) (congrArg (QY Value.bool) (show JB ((fdS f1 (Qw f1 (l0.take k)) (l0.take j)).1) (f1 x_12) false = (fdS f1 (Qw f1 (l0.take k)) (l0.take (j + 1))).1 by first | rfl | (simp [fdS]; done) | (rw [Wc (f := f1) (by assumption) (by assumption)]; done) | (rw [fd_n (f := f1) (by assumption) (by assumption)]; done)))
    replace S := S.front1
    replace S := S.re1 (l' := (fdS f1 (Qw f1 (l0.take k)) (l0.take (j + 1))).2) (by (rw [Wc (f := f1) (by assumption) (by assumption)]; done))
    exact ⟨j + 1, ⟨M_14, _, (hM_10.trans hM_14), S, E.keep ⟨rfl, rfl, rfl, rfl, rfl, rfl, trivial⟩, by (omega)⟩, by omega⟩
   ·refine Qh ?_
    refine B_n (T_n (Qa (S_v E rfl (Qq (m := ((j + 1 : Nat) : Int)) E rfl rfl (by omega) (by omega)) rfl fun _ E1 => S_m E1 rfl rfl ?_)))
    clear E a E1; intro a E
    refine Qc (T_n ?_)
    replace S := S.front1
    replace S := S.front1
    replace S := S.reM (L' := (QY Value.bool ((fdS f1 (Qw f1 (l0.take k)) (l0.take (j + 1))).1))) (congrArg (QY Value.bool) (show (fdS f1 (Qw f1 (l0.take k)) (l0.take j)).1 = (fdS f1 (Qw f1 (l0.take k)) (l0.take (j + 1))).1 by first | rfl | (simp [fdS]; done) | (rw [Wc (f := f1) (by assumption) (by assumption)]; done) | (rw [fd_n (f := f1) (by assumption) (by assumption)]; done)))
    replace S := S.front1
    replace S := S.re1 (l' := (fdS f1 (Qw f1 (l0.take k)) (l0.take (j + 1))).2) (by (rw [fd_n (f := f1) (by assumption) (by assumption)]; done))
    exact ⟨j + 1, ⟨M_14, _, (hM_10.trans hM_14), S, E.keep ⟨rfl, rfl, rfl, rfl, rfl, rfl, trivial⟩, by (omega)⟩, by omega⟩
  ·refine Qt (T_x (T_x (B_x (T_n (Qb (Qa (S_m E rfl rfl fun _ E1 => S_a E1 rfl rfl ?_)))))))
   clear E a E1; intro a E
   refine Qc (T_n (Qe ?_))
   have S0 := S; clear S
   obtain ⟨M_19, hM_19, hz_20, S⟩ := S0.freezeI (by (have hfl := Gw f1 (Qw f1 (l0.take k)) (l0.take j); rw [List.length_take] at hfl; omega))
   clear S0
   exact Qg E Tryz.results143 rfl ⟨_, rfl, M_19, (hM_2.trans (hM_10.trans hM_19)), (RdS.eqL hz_20 (by (rw [List.take_of_length_le (l := l0) (i := k) (by omega), List.take_of_length_le (l := l0) (i := j) (by omega)]))), S.drop⟩
theorem UI {M : Hp} {v0 : Value} {l0 : List Int} (h0 : RdI M v0 l0){kk1 kn1 : Int} (gk1 : -9223372036854775808 ≤ kn1 ∧ kn1 ≤ 9223372036854775807) (hb : l0.length ≤ 1000000000000) :
  Pu Tryz.prog (.func (.func 55) #[] #[]) M [v0, .agg #[.int .i64 kk1, .int .i64 kn1]] (fun r M' => RdI M' r ((fdS (fun x => Qs kk1 kn1 x 0) (Qw (fun x => Qs kk1 kn1 x 0) l0) l0).2)) := by
 refine Qk Tryz.func55 rfl Tryz.ntmps55 rfl Tryz.call55 ?_
 intro a w M1 H hM1 S E
 replace h0 := h0.le hM1
 have b0 := h0.bound
 have hfl := Gw (fun x => Qs kk1 kn1 x 0) (Qw (fun x => Qs kk1 kn1 x 0) l0) l0
 refine Qb (Qa ?_)
 refine S_x (Jc (cs := #[.int .i64 kk1, .int .i64 kn1]) E S rfl rfl rfl ?_)
 clear E a S; rintro a w b_1 E S
 obtain ⟨M_2, hM_2, hb_1, S⟩ := S.freezeB
 replace h0 := h0.le hM_2
 refine S_a E rfl rfl fun _ E1 => Qc (T_n (Qb (Qa (S_m E1 rfl rfl fun _ E2 => S_v E2 rfl (QA E2 rfl (Tryz.isAgg30 _) (Tryz.sizeOf30 _) S.imm hb_1) rfl fun _ E3 => S_v E3 rfl (QT E3 rfl rfl) rfl ?_))))
 clear E a E1 E2 E3; intro a E
 refine S_x (Qr E S rfl rfl rfl (WB h0 ⟨rfl, fun zx1 => je (x1 := zx1) (by omega)⟩ (by (omega))) (Hp.le.refl _) ?_)
 clear E a S; rintro a v_4 w M_3 hM_3 hv_4 S E
 refine S_a E rfl rfl ?_
 clear E a; intro a E
 refine Qc (T_n (Qe ?_))
 exact Qg E Tryz.results55 rfl ⟨_, rfl, M_3, (hM_2.trans hM_3), hv_4, S⟩
theorem Zz {M : Hp} {v0 : Value} {l0 : List Int} (h0 : RdI M v0 l0)(hb : l0.length ≤ 1000000000000) :
  Sp Tryz.prog (.func (.func 145) #[] #[]) M [v0] [] (fun r M' C' => C' = [QR 3 r l0]) := by
 refine Wg Tryz.func145 rfl Tryz.ntmps145 rfl Tryz.call145 ?_
 intro a w M1 H hM1 S E
 replace h0 := h0.le hM1
 have b0 := h0.bound
 refine Qb (Qa (S_a E rfl rfl ?_))
 clear E a; intro a E
 refine Qc (T_n (Qb (Qa ?_)))
 refine S_x (Qy (ys := []) E S rfl T22 rfl rfl rfl ?_)
 clear E a S; rintro a w v_1 E S
 refine S_m E rfl rfl ?_
 clear E a; intro a E
 refine S_x (QJ (xs := ([] : List Int)) E S rfl rfl rfl T22 h0 (by (simp; omega)) ?_)
 clear E a S; rintro a w v_2 E S
 refine S_a E rfl rfl ?_
 clear E a; intro a E
 refine Qc (T_n (Qe ?_))
 replace S := S.re1 (l' := l0) (by (rfl))
 exact Qg E Tryz.results145 rfl ⟨_, rfl, M1, _, (Hp.le.refl _), rfl, S⟩
theorem qx {M : Hp} {v0 : Value} {l0 : List Int} (b0 : l0.length ≤ 1000000000000) :
  Sp Tryz.prog (.func (.func 238) #[] #[]) M [v0] [QR 3 v0 l0] (fun r M' C' => C' = [QR 3 v0 ((l0).reverse)]) := by
 refine Wg Tryz.func238 rfl Tryz.ntmps238 rfl Tryz.call238 ?_
 intro a w M1 H hM1 S E
 replace S : St w M1 (QR 3 v0 l0 :: _) := S
 refine Qb (Qa (S_m E rfl rfl fun _ E1 => S_v E1 rfl (Qp E1 rfl T22 S.lenC) rfl fun _ E2 => S_a E2 rfl rfl fun _ E3 => Qc (T_n (Qb (Qa (S_m E3 rfl rfl fun _ E4 => S_v E4 rfl (R_quon (p := (l0).length) (q := 2) E4 rfl rfl (by decide) (by omega)) rfl fun _ E5 => S_a E5 rfl rfl ?_))))))
 clear E a E1 E2 E3 E4 E5; intro a E
 refine Qc (T_n (Qb (Qa (S_a E rfl rfl ?_))))
 clear E a; intro a E
 refine Qc (T_n (Qi ?_))
 replace S := S.re1 (l' := Va l0 0) (by exact swapK_zero _)
 refine Qx (γ := Nat) (fun (k : Nat) a w => ∃ (M_1 : Hp), Hp.le M1 M_1 ∧ St w M_1 (QR 3 v0 (Va l0 k) :: H) ∧ Env a 33 [] [(0, v0), (2, .int .i64 (((l0).length : Nat) : Int)), (3, .int .i64 ((((l0).length) / 2 : Nat) : Int)), (4, .int .i64 ((k : Nat) : Int))] ∧ (k ≤ l0.length / 2)) (fun k => l0.length / 2 - k) 0 ⟨M1, Hp.le.refl _, S, E.keep ⟨rfl, rfl, rfl, rfl, trivial⟩, by (omega)⟩ ?_
 try clear E
 try clear S
 try clear a
 try clear w
 rintro k a w ⟨M_1, hM_1, S, E, hL0_0⟩
 have hsl := ZL l0 k
 refine Qb (Qb (Qa (S_m E rfl rfl fun _ E1 => S_m E1 rfl rfl fun _ E2 => S_v E2 rfl (QG E2 rfl rfl) rfl ?_)))
 clear E a E1 E2; intro a E
 refine Qc (T_n ?_)
 refine Qn E rfl (fun hc_2 => ?_) (fun hc_2 => ?_)
 ·refine Qh (T_n (Qb (Qi (Qb (Qa (S_m E rfl rfl fun _ E1 => S_v E1 rfl (Jg (m := (((l0).length - 1 : Nat) : Int)) E1 rfl rfl (by omega) (by omega)) rfl fun _ E2 => S_m E2 rfl rfl fun _ E3 => S_v E3 rfl (Jg (m := (((l0).length - 1 - k : Nat) : Int)) E3 rfl rfl (by omega) (by omega)) rfl fun _ E4 => S_a E4 rfl rfl ?_))))))
  clear E a E1 E2 E3 E4; intro a E
  refine Qc (T_n ?_)
  replace S := S.mono_heap (w' := World.drew _) rfl
  obtain ⟨p_3, hp_3⟩ := S.ptrC (k := (l0).length - 1 - k) (by omega)
  obtain ⟨x_4, hx_4⟩ : ∃ x, (Va l0 k)[(l0).length - 1 - k]? = some x := ⟨_, List.getElem?_eq_getElem (by omega)⟩
  obtain ⟨p_5, hp_5⟩ := S.ptrC (k := k) (by omega)
  obtain ⟨x_6, hx_6⟩ : ∃ x, (Va l0 k)[k]? = some x := ⟨_, List.getElem?_eq_getElem (by omega)⟩
  refine Jx (C := fun x w => agree M_1 w ∧ (x = 7 → w.cell? p_3 = some (.int .i64 x_4)) ∧ (x = 11 → w.cell? p_5 = some (.int .i64 x_6))) (bf := (fun i => bif Nat.beq i 13 then [7, 11] else bif Nat.beq i 15 then [7, 11] else [])) [0, 1, 2, 3, 4, 5, 6, 7, 8, 9, 10, 11, 12, 14] [0, 1, 2, 3, 4, 5, 6, 7, 8, 9, 10, 11, 12, 13, 14, 15] Tryz.mixed (by kernel_rfl) (fun x hq => ⟨S.imm, fun _ => S.cellI hp_3 hx_4, fun _ => S.cellI hp_5 hx_6⟩) ?_
  refine D_v E rfl rfl rfl (fun w hC => (Qu E rfl)) fun _ E1 => D_v E1 rfl rfl rfl (fun w hC => (Qu E1 rfl)) fun _ E2 => D_v E2 rfl rfl rfl (fun w hC => (Qu E2 rfl)) fun _ E3 => D_v E3 rfl rfl rfl (fun w hC => (Qu E3 rfl)) fun _ E4 => D_v E4 rfl rfl rfl (fun w hC => (Qu E4 rfl)) fun _ E5 => D_v E5 rfl rfl rfl (fun w hC => (Qu E5 rfl)) ?_
  clear E a E1 E2 E3 E4 E5; intro a E
  refine D_v E rfl rfl rfl (fun w hC => (QB E rfl rfl T22 hp_3 rfl)) fun _ E1 => D_v E1 rfl rfl rfl (fun w hC => (VK E1 rfl (Tryz.isAgg3 _) (hC.2.1 rfl))) fun _ E2 => D_v E2 rfl rfl rfl (fun w hC => (Qu E2 rfl)) fun _ E3 => D_v E3 rfl rfl rfl (fun w hC => (Qu E3 rfl)) fun _ E4 => D_v E4 rfl rfl rfl (fun w hC => (QB E4 rfl rfl T22 hp_5 rfl)) fun _ E5 => D_v E5 rfl rfl rfl (fun w hC => (VK E5 rfl (Tryz.isAgg3 _) (hC.2.2 rfl))) ?_
  clear E a E1 E2 E3 E4 E5; intro a E
  refine D_v E rfl rfl rfl (fun w hC => (QB E rfl rfl T22 hp_5 rfl)) ?_
  clear E a; intro a E
  refine D_x rfl rfl rfl (Vs E S rfl rfl (Tryz.sizeOf3 _) hp_5 ?_)
  clear E a S; rintro a w E S
  refine ⟨fun x hq hb => ⟨(Qz (Hp.le.refl _) S.imm), (fun e => by subst e; exact absurd hb (by decide)), (fun e => by subst e; exact absurd hb (by decide))⟩, ?_⟩
  refine D_v E rfl rfl rfl (fun w hC => (QB E rfl rfl T22 hp_3 rfl)) ?_
  clear E a; intro a E
  refine D_x rfl rfl rfl (Vs E S rfl rfl (Tryz.sizeOf3 _) hp_3 ?_)
  clear E a S; rintro a w E S
  refine ⟨fun x hq hb => ⟨(Qz (Hp.le.refl _) S.imm), (fun e => by subst e; exact absurd hb (by decide)), (fun e => by subst e; exact absurd hb (by decide))⟩, ?_⟩
  refine Ze (Zd ?_)
  refine B_n (T_n (Qa (S_m E rfl rfl fun _ E1 => S_v E1 rfl (Qq (m := ((k + 1 : Nat) : Int)) E1 rfl rfl (by omega) (by omega)) rfl fun _ E2 => S_a E2 rfl rfl ?_)))
  clear E a E1 E2; intro a E
  refine Qc (T_n ?_)
  replace S := S.re1 (l' := Va l0 (k + 1)) (by (refine swapK_succ ?_ ?_ (by assumption) (by assumption); omega; omega))
  exact ⟨k + 1, ⟨M_1, hM_1, S, E.keep ⟨rfl, rfl, rfl, rfl, trivial⟩, by (omega)⟩, by omega⟩
 ·refine Qt (T_x (T_x (B_x ?_)))
  refine F_nrm ?_
  replace S := S.re1 (l' := (l0).reverse) (by (exact swapK_half (by omega)))
  exact F_ret0 E Tryz.results238 ⟨_, rfl, M_1, _, hM_1, rfl, S⟩
theorem lo_Reverse {M : Hp} {v0 : Value} {l0 : List Int} (b0 : l0.length ≤ 1000000000000) :
  Sp Tryz.prog (.func (.func 144) #[] #[]) M [v0] [QR 3 v0 l0] (fun r M' C' => C' = [QR 3 r ((l0).reverse)]) := by
 refine Wg Tryz.func144 rfl Tryz.ntmps144 rfl Tryz.call144 ?_
 intro a w M1 H hM1 S E
 replace S : St w M1 (QR 3 v0 l0 :: _) := S
 refine Qb (Qa (S_a E rfl rfl fun _ E1 => Qc (T_n (Qb (Qa (S_m E1 rfl rfl ?_))))))
 clear E a E1; intro a E
 refine S_x (Vv (p := [QR 3 v0 l0]) E S rfl rfl rfl (qx (by (omega))) (Hp.le.refl _) ?_)
 clear E a S; rintro a v_2 w M_1 _ hM_1 rfl S E
 replace S : St w M_1 (QR 3 v0 ((l0).reverse) :: _) := S
 refine Qc (T_n (Qb (Qa (S_m E rfl rfl fun _ E1 => S_a E1 rfl rfl ?_))))
 clear E a E1; intro a E
 refine Qc (T_n (Qe ?_))
 exact Qg E Tryz.results144 rfl ⟨_, rfl, M_1, _, hM_1, rfl, S⟩
theorem yT {M : Hp} {v0 : Value} {l0 : List Int} (h0 : RdI M v0 l0)(hb : l0.length ≤ 1000000000000) :
  Pu Tryz.prog (.func (.func 56) #[] #[]) M [v0] (fun r M' => RdI M' r ((l0).reverse)) := by
 refine Qk Tryz.func56 rfl Tryz.ntmps56 rfl Tryz.call56 ?_
 intro a w M1 H hM1 S E
 replace h0 := h0.le hM1
 have b0 := h0.bound
 refine Qb (Qa (S_a E rfl rfl fun _ E1 => Qc (T_n (Qb (Qa (S_m E1 rfl rfl ?_))))))
 clear E a E1; intro a E
 refine S_x (Vv (p := []) E S rfl rfl rfl (Zz h0 (by (first | omega | (simp; omega) | (simp; done) | (simp_all; omega) | grind))) (Hp.le.refl _) ?_)
 clear E a S; rintro a v_2 w M_1 _ hM_1 rfl S E
 replace S : St w M_1 (QR 3 v_2 l0 :: _) := S
 refine S_x (Vv (p := [QR 3 v_2 l0]) E S rfl rfl rfl (lo_Reverse (by (omega))) (Hp.le.refl _) ?_)
 clear E a S; rintro a v_4 w M_3 _ hM_3 rfl S E
 replace S : St w M_3 (QR 3 v_4 ((l0).reverse) :: _) := S
 refine S_a E rfl rfl ?_
 clear E a; intro a E
 refine Qc (T_n (Qe ?_))
 have S0 := S; clear S
 obtain ⟨M_5, hM_5, hz_6, S⟩ := S0.freezeI (by ((simp; omega)))
 clear S0
 exact Qg E Tryz.results56 rfl ⟨_, rfl, M_5, (hM_1.trans (hM_3.trans hM_5)), hz_6, S⟩
theorem Us {M : Hp} {v0 : Value} {l0 : List Int} (h0 : PF0L Tryz.prog v0 M l0) :
  Pu Tryz.prog (.func (.func 146) #[] #[]) M [v0] (fun r M' => ∃ t0, r = .tuple #[t0, .bool true] ∧ RdI M' t0 l0) := by
 refine Qk Tryz.func146 rfl Tryz.ntmps146 rfl Tryz.call146 ?_
 intro a w M1 H hM1 S E
 replace h0 := h0.le hM1
 refine Qb (Qa ?_)
 refine S_x (Jp (cs := #[.slice none 0 0]) E S rfl Tryz.zeroValue22 rfl ?_)
 clear E a S; rintro a w b_1 E S
 refine S_x (Jp (cs := #[.bool false]) E S rfl Tryz.zeroValue4 rfl ?_)
 clear E a S; rintro a w b_2 E S
 refine Qc (T_n (Qb (Qa (S_v E rfl (QT E rfl rfl) rfl ?_))))
 clear E a; intro a E
 refine vi E rfl ?_
 clear E a; intro a E
 replace E : Env a 7 [⟨.fn (.func 239) #[.pointer (some ⟨b_1, 0, none⟩), .pointer (some ⟨b_2, 0, none⟩)], #[]⟩] _ := E
 refine Qc (T_n (Qb (Qa (S_m E rfl rfl ?_))))
 clear E a; intro a E
 refine S_x (Qr E S rfl rfl rfl (h0.2 ) (Hp.le.refl _) ?_)
 clear E a S; rintro a v_4 w M_3 hM_3 hv_4 S E
 replace S := S.front1
 refine Zr (WA E S rfl rfl (Tryz.sizeOf22 _) (RdS.one' hv_4) ?_)
 clear E a S; rintro a w E S
 replace S := S.front1
 refine Zr (WA E S rfl rfl (Tryz.sizeOf4 _) rfl ?_)
 clear E a S; rintro a w E S
 refine Qc (T_n (Qe ?_))
 replace S := S.front1
 exact F_retDC2 E S Tryz.results146 rfl rfl (fun w => Tryz.isAgg22 w) (fun w => Tryz.isAgg4 w) Tryz.call239 (fun w => Gh Tryz.func239 rfl Tryz.results239 Tryz.ntmps239 rfl rfl (by simp) (UE Tryz.underlying20)) ⟨_, rfl, M_3, hM_3, ⟨_, (by rfl), hv_4⟩, S.drop.drop⟩
theorem lo_Take {M : Hp} {v0 : Value} {l0 : List Int} (h0 : RdI M v0 l0){x1 : Int} (g1 : 0 ≤ x1 ∧ x1 ≤ 1000000000000)(hb : l0.length ≤ 1000000000000) :
  Pu Tryz.prog (.func (.func 148) #[] #[]) M [v0, .int .i64 x1] (fun r M' => RdI M' r ((l0).take (x1 : Int).toNat)) := by
 refine Qk Tryz.func148 rfl Tryz.ntmps148 rfl Tryz.call148 ?_
 intro a w M1 H hM1 S E
 replace h0 := h0.le hM1
 have b0 := h0.bound
 refine Qb (Qa (S_a E rfl rfl fun _ E1 => Qc (T_n (Qb (Qb (Qa (S_m E1 rfl rfl fun _ E2 => S_v E2 rfl (QG E2 rfl rfl) rfl ?_)))))))
 clear E a E1 E2; intro a E
 refine Qc (T_n ?_)
 have hc_1 : (decide (x1 < 0)) = false := by (apply decide_eq_false; omega)
 refine Ja E rfl hc_1 ?_
 refine Qh (T_n (Qb (Qb (Qa (S_m E rfl rfl fun _ E1 => S_v E1 rfl (Qv E1 rfl rfl) rfl ?_)))))
 clear E a E1; intro a E
 refine Qc (T_n ?_)
 refine Qn E rfl (fun hc_2 => ?_) (fun hc_2 => ?_)
 ·refine Qb (Qa ?_)
  refine S_x (Jf (k := 0) E S rfl rfl rfl T22 rfl (by omega) (by omega) (by omega) ?_)
  clear E a S; rintro a w v_3 E S
  replace S := S.made0
  refine S_a E rfl rfl ?_
  clear E a; intro a E
  refine Qc (T_n (Qe ?_))
  refine T_r ?_
  have S0 := S; clear S
  obtain ⟨M_4, hM_4, hz_5, S⟩ := S0.freezeI (by ((simp; done)))
  clear S0
  replace h0 := h0.le hM_4
  exact Qg E Tryz.results148 rfl ⟨_, rfl, M_4, hM_4, (RdS.eqL hz_5 (by ((rw [show x1.toNat = 0 by omega]; simp; done)))), S⟩
 ·refine Qh (T_n (Qb (Qa (S_m E rfl rfl fun _ E1 => S_v E1 rfl (Qp E1 rfl T22 h0.len) rfl fun _ E2 => S_a E2 rfl rfl fun _ E3 => Qc (T_n (Qb (Qb (Qa (S_m E3 rfl rfl fun _ E4 => S_v E4 rfl (Qv E4 rfl rfl) rfl ?_)))))))))
  clear E a E1 E2 E3 E4; intro a E
  refine Qc (T_n ?_)
  refine Qn E rfl (fun hc_6 => ?_) (fun hc_6 => ?_)
  ·refine Qb (Qa ?_)
   refine S_x (Jf (k := 0) E S rfl rfl rfl T22 rfl (by omega) (by omega) (by omega) ?_)
   clear E a S; rintro a w v_7 E S
   replace S := S.made0
   refine S_a E rfl rfl ?_
   clear E a; intro a E
   refine Qc (T_n (Qe ?_))
   refine T_r ?_
   have S0 := S; clear S
   obtain ⟨M_8, hM_8, hz_9, S⟩ := S0.freezeI (by ((simp; done)))
   clear S0
   replace h0 := h0.le hM_8
   exact Qg E Tryz.results148 rfl ⟨_, rfl, M_8, hM_8, (RdS.eqL hz_9 (by ((rw [show l0 = [] from List.eq_nil_of_length_eq_zero (by omega)]; simp; done)))), S⟩
  ·refine Qh (T_n (Qb (Qb (Qa (S_m E rfl rfl fun _ E1 => S_m E1 rfl rfl fun _ E2 => S_v E2 rfl (YV E2 rfl rfl) rfl ?_)))))
   clear E a E1 E2; intro a E
   refine Qc (T_n ?_)
   refine Qn E rfl (fun hc_10 => ?_) (fun hc_10 => ?_)
   ·refine Qb (Qa (S_m E rfl rfl ?_))
    clear E a; intro a E
    refine S_x (Yk (k := (l0).length) E S rfl rfl rfl T22 (by omega) (by omega) (by omega) (by omega) ?_)
    clear E a S; rintro a w v_11 E S
    replace S := S.madeI
    refine S_a E rfl rfl fun _ E1 => Qc (T_n (Qb (Qa (S_m E1 rfl rfl fun _ E2 => S_m E2 rfl rfl ?_))))
    clear E a E1 E2; intro a E
    refine S_x (YO (xs := (List.replicate ((l0).length) (0 : Int))) (ys := l0) E S rfl rfl rfl T22 h0 ?_)
    clear E a S; rintro a w E S
    refine Qc (T_n (Qb (Qa (S_m E rfl rfl fun _ E1 => S_a E1 rfl rfl ?_))))
    clear E a E1; intro a E
    refine Qc (T_n (Qe ?_))
    refine T_r ?_
    have S0 := S; clear S
    obtain ⟨M_12, hM_12, hz_13, S⟩ := S0.freezeI (by ((simp; omega)))
    clear S0
    replace h0 := h0.le hM_12
    exact Qg E Tryz.results148 rfl ⟨_, rfl, M_12, hM_12, (RdS.eqL hz_13 (by ((rw [List.length_replicate, List.drop_eq_nil_of_le (by first | (simp; done) | (simp; omega)), List.append_nil]; first | done | (rw [List.take_length, List.take_of_length_le (by omega)]) | rfl)))), S⟩
   ·refine Qh (T_n (Qb (Qa (S_m E rfl rfl ?_))))
    clear E a; intro a E
    refine S_x (Yk (k := (x1).toNat) E S rfl rfl rfl T22 (by omega) (by omega) (by omega) (by omega) ?_)
    clear E a S; rintro a w v_14 E S
    replace S := S.madeI
    refine S_a E rfl rfl fun _ E1 => Qc (T_n (Qb (Qa (S_m E1 rfl rfl fun _ E2 => S_m E2 rfl rfl ?_))))
    clear E a E1 E2; intro a E
    refine S_x (YO (xs := (List.replicate ((x1).toNat) (0 : Int))) (ys := l0) E S rfl rfl rfl T22 h0 ?_)
    clear E a S; rintro a w E S
    refine Qc (T_n (Qb (Qa (S_m E rfl rfl fun _ E1 => S_a E1 rfl rfl ?_))))
    clear E a E1; intro a E
    refine Qc (T_n (Qe ?_))
    have S0 := S; clear S
    obtain ⟨M_15, hM_15, hz_16, S⟩ := S0.freezeI (by ((simp; omega)))
    clear S0
    exact Qg E Tryz.results148 rfl ⟨_, rfl, M_15, hM_15, (RdS.eqL hz_16 (by ((rw [List.length_replicate, List.drop_eq_nil_of_le (by first | (simp; done) | (simp; omega)), List.append_nil]; first | done | (rw [List.take_length, List.take_of_length_le (by omega)]) | rfl)))), S⟩
theorem impl_Take1 {M : Hp} {v0 : Value} {l0 : List Int} (hb : l0.length ≤ 1000000000000) {c1 : Int} (g1 : 0 ≤ c1 ∧ c1 ≤ 1000000) {bx0 bx1 : Nat} (hbx0 : M bx0 = some (.cells #[v0] 22)) (h0 : RdI M v0 l0) (hbx1 : M bx1 = some (.cells #[.int .i64 c1] 3)) :
  Pu Tryz.prog (.func (.func 147) #[] #[.pointer (some ⟨bx0, 0, none⟩), .pointer (some ⟨bx1, 0, none⟩)]) M [] (fun r M' => RdI M' r ((l0).take (c1 : Int).toNat)) := by
 refine Qk Tryz.func147 rfl Tryz.ntmps147 rfl Tryz.call147 ?_
 intro a w M1 H hM1 S E
 replace hbx0 := hM1.2 _ _ hbx0
 replace hbx1 := hM1.2 _ _ hbx1
 replace h0 := h0.le hM1
 have b0 := h0.bound
 refine Qb (Qa (S_a E rfl rfl fun _ E1 => Qc (T_n (Qb (Qa (S_v E1 rfl (Qj E1 rfl Tryz.isAgg22 S.imm (Jw hbx0)) rfl fun _ E2 => S_v E2 rfl (Qj E2 rfl Tryz.isAgg3 S.imm (Jw hbx1)) rfl ?_))))))
 clear E a E1 E2; intro a E
 refine S_x (Qr E S rfl rfl rfl (lo_Take h0 (by omega) (by (omega))) (Hp.le.refl _) ?_)
 clear E a S; rintro a v_2 w M_1 hM_1 hv_2 S E
 refine S_a E rfl rfl ?_
 clear E a; intro a E
 refine Qc (T_n (Qe ?_))
 exact Qg E Tryz.results147 rfl ⟨_, rfl, M_1, hM_1, hv_2, S⟩
theorem impl_Take {M : Hp} {v0 : Value} {l0 : List Int} (h0 : RdI M v0 l0){x1 : Int}  (hb : l0.length ≤ 1000000000000) (g1 : 0 ≤ x1 ∧ x1 ≤ 1000000) :
  Pu Tryz.prog (.func (.func 57) #[] #[]) M [v0, .int .i64 x1] (fun r M' => ∃ t0, r = .tuple #[t0, .bool true] ∧ RdI M' t0 ((l0).take (x1 : Int).toNat)) := by
 refine Qk Tryz.func57 rfl Tryz.ntmps57 rfl Tryz.call57 ?_
 intro a w M1 H hM1 S E
 replace h0 := h0.le hM1
 have b0 := h0.bound
 refine Qb (Qa ?_)
 refine S_x (Jc (cs := #[v0]) E S rfl rfl (cells_one (RdS.one' h0)) ?_)
 clear E a S; rintro a w b_1 E S
 obtain ⟨M_2, hM_2, hb_1, S⟩ := S.freezeB
 replace h0 := h0.le hM_2
 refine S_x (Jc (cs := #[.int .i64 x1]) E S rfl rfl rfl ?_)
 clear E a S; rintro a w b_3 E S
 obtain ⟨M_4, hM_4, hb_3, S⟩ := S.freezeB
 replace h0 := h0.le hM_4
 replace hb_1 := hM_4.2 _ _ hb_1
 refine S_a E rfl rfl fun _ E1 => S_a E1 rfl rfl fun _ E2 => Qc (T_n (Qb (Qa (S_v E2 rfl (QT E2 rfl rfl) rfl ?_))))
 clear E a E1 E2; intro a E
 refine S_x (Qr E S rfl rfl rfl (Us ⟨rfl, impl_Take1  (by omega) (by omega) hb_1 h0 hb_3⟩) (Hp.le.refl _) ?_)
 clear E a S; rintro a _ w M_5 hM_5 ⟨v_6, rfl, hv_6⟩ S E
 refine S_v E rfl (Qm E rfl rfl) rfl fun _ E1 => S_v E1 rfl (Qm E1 rfl rfl) rfl fun _ E2 => S_a E2 rfl rfl fun _ E3 => S_a E3 rfl rfl ?_
 clear E a E1 E2 E3; intro a E
 refine Qc (T_n (Qe ?_))
 exact Jt E Tryz.results57 rfl rfl ⟨_, rfl, M_5, (hM_2.trans (hM_4.trans hM_5)), ⟨_, (by rfl), (RdS.eqL hv_6 (by (rfl)))⟩, S⟩
theorem lo_Drop {M : Hp} {v0 : Value} {l0 : List Int} (h0 : RdI M v0 l0){x1 : Int} (g1 : 0 ≤ x1 ∧ x1 ≤ 1000000) (hb : l0.length ≤ 1000000000000) :
  Pu Tryz.prog (.func (.func 150) #[] #[]) M [v0, .int .i64 x1] (fun r M' => RdI M' r ((l0).drop (x1 : Int).toNat)) := by
 refine Qk Tryz.func150 rfl Tryz.ntmps150 rfl Tryz.call150 ?_
 intro a w M1 H hM1 S E
 replace h0 := h0.le hM1
 have b0 := h0.bound
 refine Qb (Qa (S_a E rfl rfl fun _ E1 => Qc (T_n (Qb (Qb (Qa (S_m E1 rfl rfl fun _ E2 => S_v E2 rfl (QG E2 rfl rfl) rfl ?_)))))))
 clear E a E1 E2; intro a E
 refine Qc (T_n ?_)
 have hc_1 : (decide (x1 < 0)) = false := by (apply decide_eq_false; omega)
 refine Ja E rfl hc_1 ?_
 refine Qh (T_n (Qb (Qb (Qa (S_m E rfl rfl fun _ E1 => S_v E1 rfl (Qp E1 rfl T22 h0.len) rfl fun _ E2 => S_m E2 rfl rfl fun _ E3 => S_v E3 rfl (ZV E3 rfl rfl) rfl ?_)))))
 clear E a E1 E2 E3; intro a E
 refine Qc (T_n ?_)
 refine Qn E rfl (fun hc_2 => ?_) (fun hc_2 => ?_)
 ·refine Qb (Qa ?_)
  refine S_x (Jf (k := 0) E S rfl rfl rfl T22 rfl (by omega) (by omega) (by omega) ?_)
  clear E a S; rintro a w v_3 E S
  replace S := S.made0
  refine S_a E rfl rfl ?_
  clear E a; intro a E
  refine Qc (T_n (Qe ?_))
  refine T_r ?_
  have S0 := S; clear S
  obtain ⟨M_4, hM_4, hz_5, S⟩ := S0.freezeI (by ((simp; done)))
  clear S0
  replace h0 := h0.le hM_4
  exact Qg E Tryz.results150 rfl ⟨_, rfl, M_4, hM_4, (RdS.eqL hz_5 (by (rw [List.drop_eq_nil_of_le (by omega)]))), S⟩
 ·refine Qh (T_n (Qb (Qa (S_m E rfl rfl fun _ E1 => S_v E1 rfl (Qp E1 rfl T22 h0.len) rfl fun _ E2 => S_m E2 rfl rfl fun _ E3 => S_v E3 rfl (Jg (m := (((l0).length : Nat) : Int) - x1) E3 rfl rfl (by omega) (by omega)) rfl ?_))))
  clear E a E1 E2 E3; intro a E
  refine S_x (Jf (k := ((((l0).length : Nat) : Int) - x1).toNat) E S rfl rfl rfl T22 rfl (by omega) (by omega) (by omega) ?_)
  clear E a S; rintro a w v_6 E S
  replace S := S.made0
  refine S_a E rfl rfl fun _ E1 => Qc (T_n (Qb (Qa (S_m E1 rfl rfl fun _ E2 => S_m E2 rfl rfl fun _ E3 => S_m E3 rfl rfl ?_))))
  clear E a E1 E2 E3; intro a E
  obtain ⟨v_7, sv_7, hv_7⟩ := h0.subv ((x1).toNat) ((l0).length) (by omega) (by omega)
  simp only [List.take_length] at hv_7
  replace hv_7 : RdI M1 v_7 ((l0).drop ((x1).toNat)) := hv_7
  refine S_v E rfl (Jq E rfl rfl T22 h0.len sv_7 (by omega)) rfl ?_
  clear E a; intro a E
  refine S_x (QJ (xs := ([] : List Int)) E S rfl rfl rfl T22 hv_7 (by (simp; omega)) ?_)
  clear E a S; rintro a w v_8 E S
  refine S_a E rfl rfl ?_
  clear E a; intro a E
  refine Qc (T_n (Qe ?_))
  have S0 := S; clear S
  obtain ⟨M_9, hM_9, hz_10, S⟩ := S0.freezeI (by ((simp; omega)))
  clear S0
  exact Qg E Tryz.results150 rfl ⟨_, rfl, M_9, hM_9, (RdS.eqL hz_10 (by (simp))), S⟩
theorem impl_Drop1 {M : Hp} {v0 : Value} {l0 : List Int} (hb : l0.length ≤ 1000000000000) {c1 : Int} (g1 : 0 ≤ c1 ∧ c1 ≤ 1000000) {bx0 bx1 : Nat} (hbx0 : M bx0 = some (.cells #[v0] 22)) (h0 : RdI M v0 l0) (hbx1 : M bx1 = some (.cells #[.int .i64 c1] 3)) :
  Pu Tryz.prog (.func (.func 149) #[] #[.pointer (some ⟨bx0, 0, none⟩), .pointer (some ⟨bx1, 0, none⟩)]) M [] (fun r M' => RdI M' r ((l0).drop (c1 : Int).toNat)) := by
 refine Qk Tryz.func149 rfl Tryz.ntmps149 rfl Tryz.call149 ?_
 intro a w M1 H hM1 S E
 replace hbx0 := hM1.2 _ _ hbx0
 replace hbx1 := hM1.2 _ _ hbx1
 replace h0 := h0.le hM1
 have b0 := h0.bound
 refine Qb (Qa (S_a E rfl rfl fun _ E1 => Qc (T_n (Qb (Qa (S_v E1 rfl (Qj E1 rfl Tryz.isAgg22 S.imm (Jw hbx0)) rfl fun _ E2 => S_v E2 rfl (Qj E2 rfl Tryz.isAgg3 S.imm (Jw hbx1)) rfl ?_))))))
 clear E a E1 E2; intro a E
 refine S_x (Qr E S rfl rfl rfl (lo_Drop h0 (by omega) (by (omega))) (Hp.le.refl _) ?_)
 clear E a S; rintro a v_2 w M_1 hM_1 hv_2 S E
 refine S_a E rfl rfl ?_
 clear E a; intro a E
 refine Qc (T_n (Qe ?_))
 exact Qg E Tryz.results149 rfl ⟨_, rfl, M_1, hM_1, hv_2, S⟩
theorem impl_Drop {M : Hp} {v0 : Value} {l0 : List Int} (h0 : RdI M v0 l0){x1 : Int}  (hb : l0.length ≤ 1000000000000) (g1 : 0 ≤ x1 ∧ x1 ≤ 1000000) :
  Pu Tryz.prog (.func (.func 58) #[] #[]) M [v0, .int .i64 x1] (fun r M' => ∃ t0, r = .tuple #[t0, .bool true] ∧ RdI M' t0 ((l0).drop (x1 : Int).toNat)) := by
 refine Qk Tryz.func58 rfl Tryz.ntmps58 rfl Tryz.call58 ?_
 intro a w M1 H hM1 S E
 replace h0 := h0.le hM1
 have b0 := h0.bound
 refine Qb (Qa ?_)
 refine S_x (Jc (cs := #[v0]) E S rfl rfl (cells_one (RdS.one' h0)) ?_)
 clear E a S; rintro a w b_1 E S
 obtain ⟨M_2, hM_2, hb_1, S⟩ := S.freezeB
 replace h0 := h0.le hM_2
 refine S_x (Jc (cs := #[.int .i64 x1]) E S rfl rfl rfl ?_)
 clear E a S; rintro a w b_3 E S
 obtain ⟨M_4, hM_4, hb_3, S⟩ := S.freezeB
 replace h0 := h0.le hM_4
 replace hb_1 := hM_4.2 _ _ hb_1
 refine S_a E rfl rfl fun _ E1 => S_a E1 rfl rfl fun _ E2 => Qc (T_n (Qb (Qa (S_v E2 rfl (QT E2 rfl rfl) rfl ?_))))
 clear E a E1 E2; intro a E
 refine S_x (Qr E S rfl rfl rfl (Us ⟨rfl, impl_Drop1  (by omega) (by omega) hb_1 h0 hb_3⟩) (Hp.le.refl _) ?_)
 clear E a S; rintro a _ w M_5 hM_5 ⟨v_6, rfl, hv_6⟩ S E
 refine S_v E rfl (Qm E rfl rfl) rfl fun _ E1 => S_v E1 rfl (Qm E1 rfl rfl) rfl fun _ E2 => S_a E2 rfl rfl fun _ E3 => S_a E3 rfl rfl ?_
 clear E a E1 E2 E3; intro a E
 refine Qc (T_n (Qe ?_))
 exact Jt E Tryz.results58 rfl rfl ⟨_, rfl, M_5, (hM_2.trans (hM_4.trans hM_5)), ⟨_, (by rfl), (RdS.eqL hv_6 (by (rfl)))⟩, S⟩
theorem yH {M : Hp} {v0 : Value} {l0 : List Int} (h0 : RdI M v0 l0){x1 : Int} (g1 : 0 ≤ x1 ∧ x1 ≤ 1000000) (hb : l0.length ≤ 1000000000000) :
  Pu Tryz.prog (.func (.func 152) #[] #[]) M [v0, .int .i64 x1] (fun r M' => RdI M' r ((l0).take ((l0).length - (x1 : Int).toNat))) := by
 refine Qk Tryz.func152 rfl Tryz.ntmps152 rfl Tryz.call152 ?_
 intro a w M1 H hM1 S E
 replace h0 := h0.le hM1
 have b0 := h0.bound
 refine Qb (Qa (S_a E rfl rfl fun _ E1 => Qc (T_n (Qb (Qb (Qa (S_m E1 rfl rfl fun _ E2 => S_v E2 rfl (QG E2 rfl rfl) rfl ?_)))))))
 clear E a E1 E2; intro a E
 refine Qc (T_n ?_)
 have hc_1 : (decide (x1 < 0)) = false := by (apply decide_eq_false; omega)
 refine Ja E rfl hc_1 ?_
 refine Qh (T_n (Qb (Qb (Qa (S_m E rfl rfl fun _ E1 => S_v E1 rfl (Qp E1 rfl T22 h0.len) rfl fun _ E2 => S_m E2 rfl rfl fun _ E3 => S_v E3 rfl (ZV E3 rfl rfl) rfl ?_)))))
 clear E a E1 E2 E3; intro a E
 refine Qc (T_n ?_)
 refine Qn E rfl (fun hc_2 => ?_) (fun hc_2 => ?_)
 ·refine Qb (Qa ?_)
  refine S_x (Qy (ys := []) E S rfl T22 rfl rfl rfl ?_)
  clear E a S; rintro a w v_3 E S
  refine S_a E rfl rfl ?_
  clear E a; intro a E
  refine Qc (T_n (Qe ?_))
  refine T_r ?_
  have S0 := S; clear S
  obtain ⟨M_4, hM_4, hz_5, S⟩ := S0.freezeI (by ((simp; done)))
  clear S0
  replace h0 := h0.le hM_4
  exact Qg E Tryz.results152 rfl ⟨_, rfl, M_4, hM_4, (RdS.eqL hz_5 (by (rw [show l0.length - x1.toNat = 0 by omega]; rfl))), S⟩
 ·refine Qh (T_n (Qb (Qa (S_m E rfl rfl fun _ E1 => S_v E1 rfl (Qp E1 rfl T22 h0.len) rfl fun _ E2 => S_m E2 rfl rfl fun _ E3 => S_v E3 rfl (Jg (m := (((l0).length : Nat) : Int) - x1) E3 rfl rfl (by omega) (by omega)) rfl ?_))))
  clear E a E1 E2 E3; intro a E
  refine S_x (Jf (k := ((((l0).length : Nat) : Int) - x1).toNat) E S rfl rfl rfl T22 rfl (by omega) (by omega) (by omega) ?_)
  clear E a S; rintro a w v_6 E S
  replace S := S.made0
  refine S_a E rfl rfl fun _ E1 => Qc (T_n (Qb (Qa (S_m E1 rfl rfl fun _ E2 => S_m E2 rfl rfl fun _ E3 => S_m E3 rfl rfl fun _ E4 => S_v E4 rfl (Qp E4 rfl T22 h0.len) rfl fun _ E5 => S_m E5 rfl rfl ?_))))
  clear E a E1 E2 E3 E4 E5; intro a E
  refine S_v E rfl (Jg (m := (((l0).length : Nat) : Int) - x1) E rfl rfl (by omega) (by omega)) rfl ?_
  clear E a; intro a E
  obtain ⟨v_7, sv_7, hv_7⟩ := h0.subv 0 (((((l0).length : Nat) : Int) - x1).toNat) (by omega) (by omega)
  simp only [List.drop_zero] at hv_7
  replace hv_7 : RdI M1 v_7 ((l0).take (((((l0).length : Nat) : Int) - x1).toNat)) := hv_7
  refine S_v E rfl (Jd E rfl rfl T22 sv_7 (by omega)) rfl ?_
  clear E a; intro a E
  refine S_x (QJ (xs := ([] : List Int)) E S rfl rfl rfl T22 hv_7 (by (simp; omega)) ?_)
  clear E a S; rintro a w v_8 E S
  refine S_a E rfl rfl ?_
  clear E a; intro a E
  refine Qc (T_n (Qe ?_))
  have S0 := S; clear S
  obtain ⟨M_9, hM_9, hz_10, S⟩ := S0.freezeI (by ((simp; omega)))
  clear S0
  exact Qg E Tryz.results152 rfl ⟨_, rfl, M_9, hM_9, (RdS.eqL hz_10 (by (rw [show ((l0.length : Int) - x1).toNat = l0.length - x1.toNat by omega]; simp))), S⟩
theorem qG {M : Hp} {v0 : Value} {l0 : List Int} (hb : l0.length ≤ 1000000000000) {c1 : Int} (g1 : 0 ≤ c1 ∧ c1 ≤ 1000000) {bx0 bx1 : Nat} (hbx0 : M bx0 = some (.cells #[v0] 22)) (h0 : RdI M v0 l0) (hbx1 : M bx1 = some (.cells #[.int .i64 c1] 3)) :
  Pu Tryz.prog (.func (.func 151) #[] #[.pointer (some ⟨bx0, 0, none⟩), .pointer (some ⟨bx1, 0, none⟩)]) M [] (fun r M' => RdI M' r ((l0).take ((l0).length - (c1 : Int).toNat))) := by
 refine Qk Tryz.func151 rfl Tryz.ntmps151 rfl Tryz.call151 ?_
 intro a w M1 H hM1 S E
 replace hbx0 := hM1.2 _ _ hbx0
 replace hbx1 := hM1.2 _ _ hbx1
 replace h0 := h0.le hM1
 have b0 := h0.bound
 refine Qb (Qa (S_a E rfl rfl fun _ E1 => Qc (T_n (Qb (Qa (S_v E1 rfl (Qj E1 rfl Tryz.isAgg22 S.imm (Jw hbx0)) rfl fun _ E2 => S_v E2 rfl (Qj E2 rfl Tryz.isAgg3 S.imm (Jw hbx1)) rfl ?_))))))
 clear E a E1 E2; intro a E
 refine S_x (Qr E S rfl rfl rfl (yH h0 (by omega) (by (omega))) (Hp.le.refl _) ?_)
 clear E a S; rintro a v_2 w M_1 hM_1 hv_2 S E
 refine S_a E rfl rfl ?_
 clear E a; intro a E
 refine Qc (T_n (Qe ?_))
 exact Qg E Tryz.results151 rfl ⟨_, rfl, M_1, hM_1, hv_2, S⟩
theorem zM {M : Hp} {v0 : Value} {l0 : List Int} (h0 : RdI M v0 l0){x1 : Int}  (hb : l0.length ≤ 1000000000000) (g1 : 0 ≤ x1 ∧ x1 ≤ 1000000) :
  Pu Tryz.prog (.func (.func 59) #[] #[]) M [v0, .int .i64 x1] (fun r M' => ∃ t0, r = .tuple #[t0, .bool true] ∧ RdI M' t0 ((l0).take ((l0).length - (x1 : Int).toNat))) := by
 refine Qk Tryz.func59 rfl Tryz.ntmps59 rfl Tryz.call59 ?_
 intro a w M1 H hM1 S E
 replace h0 := h0.le hM1
 have b0 := h0.bound
 refine Qb (Qa ?_)
 refine S_x (Jc (cs := #[v0]) E S rfl rfl (cells_one (RdS.one' h0)) ?_)
 clear E a S; rintro a w b_1 E S
 obtain ⟨M_2, hM_2, hb_1, S⟩ := S.freezeB
 replace h0 := h0.le hM_2
 refine S_x (Jc (cs := #[.int .i64 x1]) E S rfl rfl rfl ?_)
 clear E a S; rintro a w b_3 E S
 obtain ⟨M_4, hM_4, hb_3, S⟩ := S.freezeB
 replace h0 := h0.le hM_4
 replace hb_1 := hM_4.2 _ _ hb_1
 refine S_a E rfl rfl fun _ E1 => S_a E1 rfl rfl fun _ E2 => Qc (T_n (Qb (Qa (S_v E2 rfl (QT E2 rfl rfl) rfl ?_))))
 clear E a E1 E2; intro a E
 refine S_x (Qr E S rfl rfl rfl (Us ⟨rfl, qG  (by omega) (by omega) hb_1 h0 hb_3⟩) (Hp.le.refl _) ?_)
 clear E a S; rintro a _ w M_5 hM_5 ⟨v_6, rfl, hv_6⟩ S E
 refine S_v E rfl (Qm E rfl rfl) rfl fun _ E1 => S_v E1 rfl (Qm E1 rfl rfl) rfl fun _ E2 => S_a E2 rfl rfl fun _ E3 => S_a E3 rfl rfl ?_
 clear E a E1 E2 E3; intro a E
 refine Qc (T_n (Qe ?_))
 exact Jt E Tryz.results59 rfl rfl ⟨_, rfl, M_5, (hM_2.trans (hM_4.trans hM_5)), ⟨_, (by rfl), (RdS.eqL hv_6 (by (rfl)))⟩, S⟩
theorem yE {M : Hp} {v0 : Value} {l0 : List Int} (h0 : RdI M v0 l0){v1 : Value} {f1 : Int → Bool} (h1 : PF1B Tryz.prog v1 M f1) (hb : l0.length ≤ 1000000000000) :
  Pu Tryz.prog (.func (.func 153) #[] #[]) M [v0, v1] (fun r M' => RdI M' r ((l0).takeWhile f1)) := by
 refine Qk Tryz.func153 rfl Tryz.ntmps153 rfl Tryz.call153 ?_
 intro a w M1 H hM1 S E
 replace h0 := h0.le hM1
 replace h1 := h1.le hM1
 have b0 := h0.bound
 refine Qb (Qa (S_a E rfl rfl fun _ E1 => Qc (T_n (Qb (Qa (S_a E1 rfl rfl ?_))))))
 clear E a E1; intro a E
 refine Qc (T_n (Qb (Qi ?_)))
 refine Qx (γ := Nat) (fun (k : Nat) a w => ∃ (M_1 : Hp), Hp.le M1 M_1 ∧ St w M_1 (H) ∧ Env a 28 [] [(0, v0), (1, v1), (5, .int .i64 ((k : Nat) : Int))] ∧ (k ≤ (l0).length) ∧ (∀ x ∈ l0.take k, f1 x = true)) (fun k => ((l0).length) - k) 0 ⟨M1, Hp.le.refl _, S, E.keep ⟨rfl, rfl, rfl, trivial⟩, by (omega), (by simp)⟩ ?_
 try clear E
 try clear S
 try clear a
 try clear w
 rintro k a w ⟨M_1, hM_1, S, E, hL0_0, hL0_1⟩
 replace h0 := h0.le hM_1
 replace h1 := h1.le hM_1
 refine Qb (Qb (Qa (S_m E rfl rfl fun _ E1 => S_m E1 rfl rfl fun _ E2 => S_v E2 rfl (Qp E2 rfl T22 h0.len) rfl fun _ E3 => S_v E3 rfl (QG E3 rfl rfl) rfl ?_)))
 clear E a E1 E2 E3; intro a E
 refine Qc (T_n ?_)
 refine Qn E rfl (fun hc_2 => ?_) (fun hc_2 => ?_)
 ·refine Qh (T_n (Qb (Qi (Qb (Qa (S_m E rfl rfl fun _ E1 => S_m E1 rfl rfl fun _ E2 => S_m E2 rfl rfl ?_))))))
  clear E a E1 E2; intro a E
  obtain ⟨x_3, hx_3⟩ : ∃ x, (l0)[k]? = some x := ⟨_, List.getElem?_eq_getElem (by omega)⟩
  obtain ⟨p_4, hp_4, qp_4⟩ := h0.at hx_3
  refine S_v E rfl (QB E rfl rfl T22 hp_4 rfl) rfl fun _ E1 => S_v E1 rfl (Qj E1 rfl Tryz.isAgg3 S.imm qp_4) rfl ?_
  clear E a E1; intro a E
  refine S_x (Qr E S rfl rfl rfl (h1.2 x_3) (Hp.le.refl _) ?_)
  clear E a S; rintro a _ w M_5 hM_5 rfl S E
  replace h0 := h0.le hM_5
  refine S_v E rfl (Zk E rfl) rfl ?_
  clear E a; intro a E
  refine Qc (T_n ?_)
  refine QL E rfl (fun hc_6 => ?_) (fun hc_6 => ?_)
  ·refine Qt ?_
   refine B_y rfl ?_
   refine T_x (T_x (B_x (T_n (Qb (Qa (S_m E rfl rfl ?_))))))
   clear E a; intro a E
   refine S_x (Yk (k := k) E S rfl rfl rfl T22 (by omega) (by omega) (by omega) (by omega) ?_)
   clear E a S; rintro a w v_7 E S
   replace S := S.madeI
   refine S_a E rfl rfl fun _ E1 => Qc (T_n (Qb (Qa (S_m E1 rfl rfl fun _ E2 => S_m E2 rfl rfl fun _ E3 => S_m E3 rfl rfl ?_))))
   clear E a E1 E2 E3; intro a E
   obtain ⟨v_8, sv_8, hv_8⟩ := h0.subv 0 k (by omega) (by omega)
   simp only [List.drop_zero] at hv_8
   replace hv_8 : RdI M_5 v_8 ((l0).take k) := hv_8
   refine S_v E rfl (Jd E rfl rfl T22 sv_8 (by omega)) rfl ?_
   clear E a; intro a E
   refine S_x (YO (xs := (List.replicate k (0 : Int))) (ys := (l0).take k) E S rfl rfl rfl T22 hv_8 ?_)
   clear E a S; rintro a w E S
   refine Qc (T_n (Qb (Qa (S_m E rfl rfl fun _ E1 => S_a E1 rfl rfl ?_))))
   clear E a E1; intro a E
   refine Qc (T_n (Qe ?_))
   have S0 := S; clear S
   obtain ⟨M_9, hM_9, hz_10, S⟩ := S0.freezeI (by (simp; omega))
   clear S0
   replace h0 := h0.le hM_9
   exact Qg E Tryz.results153 rfl ⟨_, rfl, M_9, (hM_1.trans (hM_5.trans hM_9)), (RdS.eqL hz_10 (by (rw [List.length_replicate, List.take_take, Nat.min_self, List.drop_eq_nil_of_le (by simp; omega), List.append_nil]; first | exact qU hL0_1 (.inl (by omega)) | exact qU hL0_1 (.inr ⟨_, by assumption, by simp_all⟩)))), S⟩
  ·refine Qh ?_
   refine B_n (T_n (Qa (S_m E rfl rfl fun _ E1 => S_v E1 rfl (Qq (m := ((k + 1 : Nat) : Int)) E1 rfl rfl (by omega) (by omega)) rfl fun _ E2 => S_a E2 rfl rfl ?_)))
   clear E a E1 E2; intro a E
   refine Qc (T_n ?_)
   exact ⟨k + 1, ⟨M_5, (hM_1.trans hM_5), S, E.keep ⟨rfl, rfl, rfl, trivial⟩, by (omega), (by exact VP (P := fun x => f1 x = true) hL0_1 (by assumption) (by simp_all))⟩, by omega⟩
 ·refine Qt (T_x (T_x (B_x (T_n (Qb (Qa (S_m E rfl rfl ?_)))))))
  clear E a; intro a E
  refine S_x (Yk (k := k) E S rfl rfl rfl T22 (by omega) (by omega) (by omega) (by omega) ?_)
  clear E a S; rintro a w v_11 E S
  replace S := S.madeI
  refine S_a E rfl rfl fun _ E1 => Qc (T_n (Qb (Qa (S_m E1 rfl rfl fun _ E2 => S_m E2 rfl rfl fun _ E3 => S_m E3 rfl rfl ?_))))
  clear E a E1 E2 E3; intro a E
  obtain ⟨v_12, sv_12, hv_12⟩ := h0.subv 0 k (by omega) (by omega)
  simp only [List.drop_zero] at hv_12
  replace hv_12 : RdI M_1 v_12 ((l0).take k) := hv_12
  refine S_v E rfl (Jd E rfl rfl T22 sv_12 (by omega)) rfl ?_
  clear E a; intro a E
  refine S_x (YO (xs := (List.replicate k (0 : Int))) (ys := (l0).take k) E S rfl rfl rfl T22 hv_12 ?_)
  clear E a S; rintro a w E S
  refine Qc (T_n (Qb (Qa (S_m E rfl rfl fun _ E1 => S_a E1 rfl rfl ?_))))
  clear E a E1; intro a E
  refine Qc (T_n (Qe ?_))
  have S0 := S; clear S
  obtain ⟨M_13, hM_13, hz_14, S⟩ := S0.freezeI (by (simp; omega))
  clear S0
  exact Qg E Tryz.results153 rfl ⟨_, rfl, M_13, (hM_1.trans hM_13), (RdS.eqL hz_14 (by (rw [List.length_replicate, List.take_take, Nat.min_self, List.drop_eq_nil_of_le (by simp; omega), List.append_nil]; first | exact qU hL0_1 (.inl (by omega)) | exact qU hL0_1 (.inr ⟨_, by assumption, by simp_all⟩)))), S⟩
theorem yi {M : Hp} {pk0 pn0 : Int} {w0 : Value} {pl0 : List Int} (hw0 : RdI M w0 pl0) (gn0 : -9223372036854775808 ≤ pn0 ∧ pn0 ≤ 9223372036854775807){x1 : Int} :
  PuC Tryz.prog 154 M [.agg #[.int .i64 pk0, .int .i64 pn0, w0], .int .i64 x1] (fun r M' => r = .bool (QF pk0 pn0 pl0 x1 0)) := by
 refine YJ Tryz.func154 rfl Tryz.ntmps154 rfl ?_
 intro a w M1 H hM1 S E
 replace hw0 := hw0.le hM1
 refine Qb (Qa ?_)
 refine S_x (Jc (cs := #[.int .i64 pk0, .int .i64 pn0, w0]) E S rfl rfl rfl ?_)
 clear E a S; rintro a w b_1 E S
 obtain ⟨M_2, hM_2, hb_1, S⟩ := S.freezeB
 replace hw0 := hw0.le hM_2
 refine S_a E rfl rfl fun _ E1 => Qc (T_n (Qb (Qa (S_v E1 rfl (QA E1 rfl (Tryz.isAgg27 _) (Tryz.sizeOf27 _) S.imm hb_1) rfl fun _ E2 => S_m E2 rfl rfl ?_))))
 clear E a E1 E2; intro a E
 refine S_x (Qr E S rfl rfl rfl (yj hw0 (by omega)) (Hp.le.refl _) ?_)
 clear E a S; rintro a _ w M_3 hM_3 rfl S E
 replace hw0 := hw0.le hM_3
 refine S_a E rfl rfl ?_
 clear E a; intro a E
 refine Qc (T_n (Qe ?_))
 exact Qg E Tryz.results154 rfl ⟨_, rfl, M_3, (hM_2.trans hM_3), rfl, S⟩
theorem vl {M : Hp} {pk0 pn0 : Int} {w0 : Value} {pl0 : List Int} (hw0 : RdI M w0 pl0) (gn0 : -9223372036854775808 ≤ pn0 ∧ pn0 ≤ 9223372036854775807){x1 : Int} :
  Pu Tryz.prog (.func (.func 154) #[.agg #[.int .i64 pk0, .int .i64 pn0, w0]] #[]) M [.int .i64 x1] (fun r M' => r = .bool (QF pk0 pn0 pl0 x1 0)) := PuC.pu Tryz.call154 rfl (yi hw0 gn0)
theorem Pred_of_d {M : Hp} {pk0 pn0 : Int} {w0 : Value} {pl0 : List Int} (hw0 : RdI M w0 pl0) (gn0 : -9223372036854775808 ≤ pn0 ∧ pn0 ≤ 9223372036854775807){x1 : Int} :
  Pu Tryz.prog (.func (.func 154) #[] #[]) M [.agg #[.int .i64 pk0, .int .i64 pn0, w0], .int .i64 x1] (fun r M' => r = .bool (QF pk0 pn0 pl0 x1 0)) := PuC.pu Tryz.call154 rfl (yi hw0 gn0)
theorem zI {M : Hp} {v0 : Value} {l0 : List Int} (h0 : RdI M v0 l0){pk1 pn1 : Int} {w1 : Value} {pl1 : List Int} (hw1 : RdI M w1 pl1) (gn1 : -9223372036854775808 ≤ pn1 ∧ pn1 ≤ 9223372036854775807) (hb : l0.length ≤ 1000000000000) :
  Pu Tryz.prog (.func (.func 60) #[] #[]) M [v0, .agg #[.int .i64 pk1, .int .i64 pn1, w1]] (fun r M' => RdI M' r ((l0).takeWhile (fun x => QF pk1 pn1 pl1 x 0))) := by
 refine Qk Tryz.func60 rfl Tryz.ntmps60 rfl Tryz.call60 ?_
 intro a w M1 H hM1 S E
 replace h0 := h0.le hM1
 replace hw1 := hw1.le hM1
 have b0 := h0.bound
 have hwl := twlen (fun x => QF pk1 pn1 pl1 x 0) l0
 refine Qb (Qa ?_)
 refine S_x (Jc (cs := #[.int .i64 pk1, .int .i64 pn1, w1]) E S rfl rfl rfl ?_)
 clear E a S; rintro a w b_1 E S
 obtain ⟨M_2, hM_2, hb_1, S⟩ := S.freezeB
 replace h0 := h0.le hM_2
 replace hw1 := hw1.le hM_2
 refine S_a E rfl rfl fun _ E1 => Qc (T_n (Qb (Qa (S_m E1 rfl rfl fun _ E2 => S_v E2 rfl (QA E2 rfl (Tryz.isAgg27 _) (Tryz.sizeOf27 _) S.imm hb_1) rfl fun _ E3 => S_v E3 rfl (QT E3 rfl rfl) rfl ?_))))
 clear E a E1 E2 E3; intro a E
 refine S_x (Qr E S rfl rfl rfl (yE h0 ⟨rfl, fun zx1 => vl (x1 := zx1) hw1 (by omega)⟩ (by (omega))) (Hp.le.refl _) ?_)
 clear E a S; rintro a v_4 w M_3 hM_3 hv_4 S E
 refine S_a E rfl rfl ?_
 clear E a; intro a E
 refine Qc (T_n (Qe ?_))
 exact Qg E Tryz.results60 rfl ⟨_, rfl, M_3, (hM_2.trans hM_3), hv_4, S⟩
theorem Gp {M : Hp} {v0 : Value} {l0 : List Int} (h0 : RdI M v0 l0){v1 : Value} {f1 : Int → Bool} (h1 : PF1B Tryz.prog v1 M f1) (hb : l0.length ≤ 1000000000000) :
  Pu Tryz.prog (.func (.func 155) #[] #[]) M [v0, v1] (fun r M' => RdI M' r ((l0).dropWhile f1)) := by
 refine Qk Tryz.func155 rfl Tryz.ntmps155 rfl Tryz.call155 ?_
 intro a w M1 H hM1 S E
 replace h0 := h0.le hM1
 replace h1 := h1.le hM1
 have b0 := h0.bound
 refine Qb (Qa (S_a E rfl rfl fun _ E1 => Qc (T_n (Qb (Qa (S_a E1 rfl rfl ?_))))))
 clear E a E1; intro a E
 refine Qc (T_n (Qb (Qi ?_)))
 refine Qx (γ := Nat) (fun (k : Nat) a w => ∃ (M_1 : Hp), Hp.le M1 M_1 ∧ St w M_1 (H) ∧ Env a 30 [] [(0, v0), (1, v1), (5, .int .i64 ((k : Nat) : Int))] ∧ (k ≤ (l0).length) ∧ (∀ x ∈ l0.take k, f1 x = true)) (fun k => ((l0).length) - k) 0 ⟨M1, Hp.le.refl _, S, E.keep ⟨rfl, rfl, rfl, trivial⟩, by (omega), (by simp)⟩ ?_
 try clear E
 try clear S
 try clear a
 try clear w
 rintro k a w ⟨M_1, hM_1, S, E, hL0_0, hL0_1⟩
 replace h0 := h0.le hM_1
 replace h1 := h1.le hM_1
 refine Qb (Qb (Qa (S_m E rfl rfl fun _ E1 => S_m E1 rfl rfl fun _ E2 => S_v E2 rfl (Qp E2 rfl T22 h0.len) rfl fun _ E3 => S_v E3 rfl (QG E3 rfl rfl) rfl ?_)))
 clear E a E1 E2 E3; intro a E
 refine Qc (T_n ?_)
 refine Qn E rfl (fun hc_2 => ?_) (fun hc_2 => ?_)
 ·refine Qh (T_n (Qb (Qi (Qb (Qa (S_m E rfl rfl fun _ E1 => S_m E1 rfl rfl fun _ E2 => S_m E2 rfl rfl ?_))))))
  clear E a E1 E2; intro a E
  obtain ⟨x_3, hx_3⟩ : ∃ x, (l0)[k]? = some x := ⟨_, List.getElem?_eq_getElem (by omega)⟩
  obtain ⟨p_4, hp_4, qp_4⟩ := h0.at hx_3
  refine S_v E rfl (QB E rfl rfl T22 hp_4 rfl) rfl fun _ E1 => S_v E1 rfl (Qj E1 rfl Tryz.isAgg3 S.imm qp_4) rfl ?_
  clear E a E1; intro a E
  refine S_x (Qr E S rfl rfl rfl (h1.2 x_3) (Hp.le.refl _) ?_)
  clear E a S; rintro a _ w M_5 hM_5 rfl S E
  replace h0 := h0.le hM_5
  refine S_v E rfl (Zk E rfl) rfl ?_
  clear E a; intro a E
  refine Qc (T_n ?_)
  refine QL E rfl (fun hc_6 => ?_) (fun hc_6 => ?_)
  ·refine Qt ?_
   refine B_y rfl ?_
   refine T_x (T_x (B_x (T_n (Qb (Qa (S_m E rfl rfl fun _ E1 => S_v E1 rfl (Qp E1 rfl T22 h0.len) rfl fun _ E2 => S_m E2 rfl rfl fun _ E3 => S_v E3 rfl (Jg (m := (((l0).length - k : Nat) : Int)) E3 rfl rfl (by omega) (by omega)) rfl ?_))))))
   clear E a E1 E2 E3; intro a E
   refine S_x (Jf (k := (l0).length - k) E S rfl rfl rfl T22 rfl (by omega) (by omega) (by omega) ?_)
   clear E a S; rintro a w v_7 E S
   replace S := S.made0
   refine S_a E rfl rfl fun _ E1 => Qc (T_n (Qb (Qa (S_m E1 rfl rfl fun _ E2 => S_m E2 rfl rfl fun _ E3 => S_m E3 rfl rfl ?_))))
   clear E a E1 E2 E3; intro a E
   obtain ⟨v_8, sv_8, hv_8⟩ := h0.subv k ((l0).length) (by omega) (by omega)
   simp only [List.take_length] at hv_8
   replace hv_8 : RdI M_5 v_8 ((l0).drop k) := hv_8
   refine S_v E rfl (Jq E rfl rfl T22 h0.len sv_8 (by omega)) rfl ?_
   clear E a; intro a E
   refine S_x (QJ (xs := ([] : List Int)) E S rfl rfl rfl T22 hv_8 (by (simp; omega)) ?_)
   clear E a S; rintro a w v_9 E S
   refine S_a E rfl rfl ?_
   clear E a; intro a E
   refine Qc (T_n (Qe ?_))
   have S0 := S; clear S
   obtain ⟨M_10, hM_10, hz_11, S⟩ := S0.freezeI (by ((simp; omega)))
   clear S0
   replace h0 := h0.le hM_10
   exact Qg E Tryz.results155 rfl ⟨_, rfl, M_10, (hM_1.trans (hM_5.trans hM_10)), (RdS.eqL hz_11 (by (rw [List.nil_append]; first | exact qo hL0_1 (.inl (by omega)) | exact qo hL0_1 (.inr ⟨_, by assumption, by simp_all⟩)))), S⟩
  ·refine Qh ?_
   refine B_n (T_n (Qa (S_m E rfl rfl fun _ E1 => S_v E1 rfl (Qq (m := ((k + 1 : Nat) : Int)) E1 rfl rfl (by omega) (by omega)) rfl fun _ E2 => S_a E2 rfl rfl ?_)))
   clear E a E1 E2; intro a E
   refine Qc (T_n ?_)
   exact ⟨k + 1, ⟨M_5, (hM_1.trans hM_5), S, E.keep ⟨rfl, rfl, rfl, trivial⟩, by (omega), (by exact VP (P := fun x => f1 x = true) hL0_1 (by assumption) (by simp_all))⟩, by omega⟩
 ·refine Qt (T_x (T_x (B_x (T_n (Qb (Qa (S_m E rfl rfl fun _ E1 => S_v E1 rfl (Qp E1 rfl T22 h0.len) rfl fun _ E2 => S_m E2 rfl rfl fun _ E3 => S_v E3 rfl (Jg (m := (((l0).length - k : Nat) : Int)) E3 rfl rfl (by omega) (by omega)) rfl ?_)))))))
  clear E a E1 E2 E3; intro a E
  refine S_x (Jf (k := (l0).length - k) E S rfl rfl rfl T22 rfl (by omega) (by omega) (by omega) ?_)
  clear E a S; rintro a w v_12 E S
  replace S := S.made0
  refine S_a E rfl rfl fun _ E1 => Qc (T_n (Qb (Qa (S_m E1 rfl rfl fun _ E2 => S_m E2 rfl rfl fun _ E3 => S_m E3 rfl rfl ?_))))
  clear E a E1 E2 E3; intro a E
  obtain ⟨v_13, sv_13, hv_13⟩ := h0.subv k ((l0).length) (by omega) (by omega)
  simp only [List.take_length] at hv_13
  replace hv_13 : RdI M_1 v_13 ((l0).drop k) := hv_13
  refine S_v E rfl (Jq E rfl rfl T22 h0.len sv_13 (by omega)) rfl ?_
  clear E a; intro a E
  refine S_x (QJ (xs := ([] : List Int)) E S rfl rfl rfl T22 hv_13 (by (simp; omega)) ?_)
  clear E a S; rintro a w v_14 E S
  refine S_a E rfl rfl ?_
  clear E a; intro a E
  refine Qc (T_n (Qe ?_))
  have S0 := S; clear S
  obtain ⟨M_15, hM_15, hz_16, S⟩ := S0.freezeI (by ((simp; omega)))
  clear S0
  exact Qg E Tryz.results155 rfl ⟨_, rfl, M_15, (hM_1.trans hM_15), (RdS.eqL hz_16 (by (rw [List.nil_append]; first | exact qo hL0_1 (.inl (by omega)) | exact qo hL0_1 (.inr ⟨_, by assumption, by simp_all⟩)))), S⟩
theorem zL {M : Hp} {v0 : Value} {l0 : List Int} (h0 : RdI M v0 l0){pk1 pn1 : Int} {w1 : Value} {pl1 : List Int} (hw1 : RdI M w1 pl1) (gn1 : -9223372036854775808 ≤ pn1 ∧ pn1 ≤ 9223372036854775807) (hb : l0.length ≤ 1000000000000) :
  Pu Tryz.prog (.func (.func 61) #[] #[]) M [v0, .agg #[.int .i64 pk1, .int .i64 pn1, w1]] (fun r M' => RdI M' r ((l0).dropWhile (fun x => QF pk1 pn1 pl1 x 0))) := by
 refine Qk Tryz.func61 rfl Tryz.ntmps61 rfl Tryz.call61 ?_
 intro a w M1 H hM1 S E
 replace h0 := h0.le hM1
 replace hw1 := hw1.le hM1
 have b0 := h0.bound
 have hwl := dwlen (fun x => QF pk1 pn1 pl1 x 0) l0
 refine Qb (Qa ?_)
 refine S_x (Jc (cs := #[.int .i64 pk1, .int .i64 pn1, w1]) E S rfl rfl rfl ?_)
 clear E a S; rintro a w b_1 E S
 obtain ⟨M_2, hM_2, hb_1, S⟩ := S.freezeB
 replace h0 := h0.le hM_2
 replace hw1 := hw1.le hM_2
 refine S_a E rfl rfl fun _ E1 => Qc (T_n (Qb (Qa (S_m E1 rfl rfl fun _ E2 => S_v E2 rfl (QA E2 rfl (Tryz.isAgg27 _) (Tryz.sizeOf27 _) S.imm hb_1) rfl fun _ E3 => S_v E3 rfl (QT E3 rfl rfl) rfl ?_))))
 clear E a E1 E2 E3; intro a E
 refine S_x (Qr E S rfl rfl rfl (Gp h0 ⟨rfl, fun zx1 => vl (x1 := zx1) hw1 (by omega)⟩ (by (omega))) (Hp.le.refl _) ?_)
 clear E a S; rintro a v_4 w M_3 hM_3 hv_4 S E
 refine S_a E rfl rfl ?_
 clear E a; intro a E
 refine Qc (T_n (Qe ?_))
 exact Qg E Tryz.results61 rfl ⟨_, rfl, M_3, (hM_2.trans hM_3), hv_4, S⟩
theorem VA {M : Hp} {v0 : Value} {l0 : List Int} (h0 : RdI M v0 l0){v1 : Value} {f1 : Int → Bool} (h1 : PF1B Tryz.prog v1 M f1) (hb : l0.length ≤ 1000000000000) :
  Pu Tryz.prog (.func (.func 156) #[] #[]) M [v0, v1] (fun r M' => RdI M' r (drw f1 l0)) := by
 refine Qk Tryz.func156 rfl Tryz.ntmps156 rfl Tryz.call156 ?_
 intro a w M1 H hM1 S E
 replace h0 := h0.le hM1
 replace h1 := h1.le hM1
 have b0 := h0.bound
 refine Qb (Qa (S_a E rfl rfl fun _ E1 => Qc (T_n (Qb (Qa (S_m E1 rfl rfl fun _ E2 => S_v E2 rfl (Qp E2 rfl T22 h0.len) rfl fun _ E3 => S_v E3 rfl (Jg (m := (((l0).length : Nat) : Int) - 1) E3 rfl rfl (by omega) (by omega)) rfl fun _ E4 => S_a E4 rfl rfl ?_))))))
 clear E a E1 E2 E3 E4; intro a E
 refine Qc (T_n (Qb (Qi ?_)))
 refine Qx (γ := Nat) (fun (k : Nat) a w => ∃ (M_1 : Hp), Hp.le M1 M_1 ∧ St w M_1 (H) ∧ Env a 30 [] [(0, v0), (1, v1), (5, .int .i64 ((l0.length : Int) - 1 - (k : Int)))] ∧ (k ≤ l0.length) ∧ (∀ x ∈ l0.drop (l0.length - k), f1 x = true)) (fun k => l0.length - k) 0 ⟨M1, Hp.le.refl _, S, E.keep ⟨rfl, rfl, Za (i := (((l0).length : Nat) : Int) - 1) rfl (by (simp)), trivial⟩, by (omega), (by simp)⟩ ?_
 try clear E
 try clear S
 try clear a
 try clear w
 rintro k a w ⟨M_1, hM_1, S, E, hL0_0, hL0_1⟩
 replace h0 := h0.le hM_1
 replace h1 := h1.le hM_1
 refine Qb (Qb (Qa (S_m E rfl rfl fun _ E1 => S_v E1 rfl (YV E1 rfl rfl) rfl ?_)))
 clear E a E1; intro a E
 refine Qc (T_n ?_)
 refine Qn E rfl (fun hc_2 => ?_) (fun hc_2 => ?_)
 ·refine Qh (T_n (Qb (Qi (Qb (Qa (S_m E rfl rfl fun _ E1 => S_m E1 rfl rfl fun _ E2 => S_m E2 rfl rfl ?_))))))
  clear E a E1 E2; intro a E
  obtain ⟨x_3, hx_3⟩ : ∃ x, (l0)[l0.length - 1 - k]? = some x := ⟨_, List.getElem?_eq_getElem (by omega)⟩
  obtain ⟨p_4, hp_4, qp_4⟩ := h0.at hx_3
  refine S_v E rfl (QB E rfl rfl T22 hp_4 (by omega)) rfl fun _ E1 => S_v E1 rfl (Qj E1 rfl Tryz.isAgg3 S.imm qp_4) rfl ?_
  clear E a E1; intro a E
  refine S_x (Qr E S rfl rfl rfl (h1.2 x_3) (Hp.le.refl _) ?_)
  clear E a S; rintro a _ w M_5 hM_5 rfl S E
  replace h0 := h0.le hM_5
  refine S_v E rfl (Zk E rfl) rfl ?_
  clear E a; intro a E
  refine Qc (T_n ?_)
  refine QL E rfl (fun hc_6 => ?_) (fun hc_6 => ?_)
  ·refine Qt ?_
   refine B_y rfl ?_
   refine T_x (T_x (B_x (T_n (Qb (Qa (S_m E rfl rfl fun _ E1 => S_v E1 rfl (Qq (m := ((l0.length : Int) - 1 - (k : Int)) + 1) E1 rfl rfl (by omega) (by omega)) rfl ?_))))))
   clear E a E1; intro a E
   refine S_x (Jf (k := (((l0.length : Int) - 1 - (k : Int)) + 1).toNat) E S rfl rfl rfl T22 rfl (by omega) (by omega) (by omega) ?_)
   clear E a S; rintro a w v_7 E S
   replace S := S.made0
   refine S_a E rfl rfl fun _ E1 => Qc (T_n (Qb (Qa (S_m E1 rfl rfl fun _ E2 => S_m E2 rfl rfl fun _ E3 => S_m E3 rfl rfl fun _ E4 => S_v E4 rfl (Qq (m := ((l0.length : Int) - 1 - (k : Int)) + 1) E4 rfl rfl (by omega) (by omega)) rfl ?_))))
   clear E a E1 E2 E3 E4; intro a E
   obtain ⟨v_8, sv_8, hv_8⟩ := h0.subv 0 ((((l0.length : Int) - 1 - (k : Int)) + 1).toNat) (by omega) (by omega)
   simp only [List.drop_zero] at hv_8
   replace hv_8 : RdI M_5 v_8 ((l0).take ((((l0.length : Int) - 1 - (k : Int)) + 1).toNat)) := hv_8
   refine S_v E rfl (Jd E rfl rfl T22 sv_8 (by omega)) rfl ?_
   clear E a; intro a E
   refine S_x (QJ (xs := ([] : List Int)) E S rfl rfl rfl T22 hv_8 (by (simp; omega)) ?_)
   clear E a S; rintro a w v_9 E S
   refine S_a E rfl rfl ?_
   clear E a; intro a E
   refine Qc (T_n (Qe ?_))
   have S0 := S; clear S
   obtain ⟨M_10, hM_10, hz_11, S⟩ := S0.freezeI (by ((simp; omega)))
   clear S0
   replace h0 := h0.le hM_10
   exact Qg E Tryz.results156 rfl ⟨_, rfl, M_10, (hM_1.trans (hM_5.trans hM_10)), (RdS.eqL hz_11 (by (rw [List.nil_append, show ((l0.length : Int) - 1 - (k : Int) + 1).toNat = l0.length - k by omega]; first | exact We (by omega) hL0_1 (.inl (by omega)) | exact We (by omega) hL0_1 (.inr ⟨_, by assumption, by simp_all⟩)))), S⟩
  ·refine Qh ?_
   refine B_n (T_n (Qa (S_m E rfl rfl fun _ E1 => S_v E1 rfl (Jg (m := ((l0.length : Int) - 1 - (k : Int)) - 1) E1 rfl rfl (by omega) (by omega)) rfl fun _ E2 => S_a E2 rfl rfl ?_)))
   clear E a E1 E2; intro a E
   refine Qc (T_n ?_)
   exact ⟨k + 1, ⟨M_5, (hM_1.trans hM_5), S, E.keep ⟨rfl, rfl, Za (i := ((l0.length : Int) - 1 - (k : Int)) - 1) rfl (by (omega)), trivial⟩, (by omega), (by exact zS hL0_1 (by omega) (by assumption) (by simp_all))⟩, by omega⟩
 ·refine Qt (T_x (T_x (B_x (T_n (Qb (Qa (S_m E rfl rfl fun _ E1 => S_v E1 rfl (Qq (m := ((l0.length : Int) - 1 - (k : Int)) + 1) E1 rfl rfl (by omega) (by omega)) rfl ?_)))))))
  clear E a E1; intro a E
  refine S_x (Jf (k := (((l0.length : Int) - 1 - (k : Int)) + 1).toNat) E S rfl rfl rfl T22 rfl (by omega) (by omega) (by omega) ?_)
  clear E a S; rintro a w v_12 E S
  replace S := S.made0
  refine S_a E rfl rfl fun _ E1 => Qc (T_n (Qb (Qa (S_m E1 rfl rfl fun _ E2 => S_m E2 rfl rfl fun _ E3 => S_m E3 rfl rfl fun _ E4 => S_v E4 rfl (Qq (m := ((l0.length : Int) - 1 - (k : Int)) + 1) E4 rfl rfl (by omega) (by omega)) rfl ?_))))
  clear E a E1 E2 E3 E4; intro a E
  obtain ⟨v_13, sv_13, hv_13⟩ := h0.subv 0 ((((l0.length : Int) - 1 - (k : Int)) + 1).toNat) (by omega) (by omega)
  simp only [List.drop_zero] at hv_13
  replace hv_13 : RdI M_1 v_13 ((l0).take ((((l0.length : Int) - 1 - (k : Int)) + 1).toNat)) := hv_13
  refine S_v E rfl (Jd E rfl rfl T22 sv_13 (by omega)) rfl ?_
  clear E a; intro a E
  refine S_x (QJ (xs := ([] : List Int)) E S rfl rfl rfl T22 hv_13 (by (simp; omega)) ?_)
  clear E a S; rintro a w v_14 E S
  refine S_a E rfl rfl ?_
  clear E a; intro a E
  refine Qc (T_n (Qe ?_))
  have S0 := S; clear S
  obtain ⟨M_15, hM_15, hz_16, S⟩ := S0.freezeI (by ((simp; omega)))
  clear S0
  exact Qg E Tryz.results156 rfl ⟨_, rfl, M_15, (hM_1.trans hM_15), (RdS.eqL hz_16 (by (rw [List.nil_append, show ((l0.length : Int) - 1 - (k : Int) + 1).toNat = l0.length - k by omega]; first | exact We (by omega) hL0_1 (.inl (by omega)) | exact We (by omega) hL0_1 (.inr ⟨_, by assumption, by simp_all⟩)))), S⟩
theorem WD {M : Hp} {v0 : Value} {l0 : List Int} (h0 : RdI M v0 l0){pk1 pn1 : Int} {w1 : Value} {pl1 : List Int} (hw1 : RdI M w1 pl1) (gn1 : -9223372036854775808 ≤ pn1 ∧ pn1 ≤ 9223372036854775807) (hb : l0.length ≤ 1000000000000) :
  Pu Tryz.prog (.func (.func 62) #[] #[]) M [v0, .agg #[.int .i64 pk1, .int .i64 pn1, w1]] (fun r M' => RdI M' r (drw (fun x => QF pk1 pn1 pl1 x 0) l0)) := by
 refine Qk Tryz.func62 rfl Tryz.ntmps62 rfl Tryz.call62 ?_
 intro a w M1 H hM1 S E
 replace h0 := h0.le hM1
 replace hw1 := hw1.le hM1
 have b0 := h0.bound
 have hwl := vd (fun x => QF pk1 pn1 pl1 x 0) l0
 refine Qb (Qa ?_)
 refine S_x (Jc (cs := #[.int .i64 pk1, .int .i64 pn1, w1]) E S rfl rfl rfl ?_)
 clear E a S; rintro a w b_1 E S
 obtain ⟨M_2, hM_2, hb_1, S⟩ := S.freezeB
 replace h0 := h0.le hM_2
 replace hw1 := hw1.le hM_2
 refine S_a E rfl rfl fun _ E1 => Qc (T_n (Qb (Qa (S_m E1 rfl rfl fun _ E2 => S_v E2 rfl (QA E2 rfl (Tryz.isAgg27 _) (Tryz.sizeOf27 _) S.imm hb_1) rfl fun _ E3 => S_v E3 rfl (QT E3 rfl rfl) rfl ?_))))
 clear E a E1 E2 E3; intro a E
 refine S_x (Qr E S rfl rfl rfl (VA h0 ⟨rfl, fun zx1 => vl (x1 := zx1) hw1 (by omega)⟩ (by (omega))) (Hp.le.refl _) ?_)
 clear E a S; rintro a v_4 w M_3 hM_3 hv_4 S E
 refine S_a E rfl rfl ?_
 clear E a; intro a E
 refine Qc (T_n (Qe ?_))
 exact Qg E Tryz.results62 rfl ⟨_, rfl, M_3, (hM_2.trans hM_3), hv_4, S⟩
theorem jv {M : Hp} {v0 : Value} {l0 : List Int} (h0 : RdI M v0 l0){v2 : Value} {f2 : Int → Int → Bool} (h2 : PF2B Tryz.prog v2 M f2) {x1 : Int} (g1 : 0 ≤ x1 ∧ x1 ≤ 1000000)(hb : l0.length ≤ 1000000000000) :
  Pu Tryz.prog (.func (.func 158) #[] #[]) M [v0, .int .i64 x1, v2] (fun r M' => RdI M' r ((QP f2 0 l0).take (x1 : Int).toNat)) := by
 refine Qk Tryz.func158 rfl Tryz.ntmps158 rfl Tryz.call158 ?_
 intro a w M1 H hM1 S E
 replace h0 := h0.le hM1
 replace h2 := h2.le hM1
 have b0 := h0.bound
 refine Qb (Qa (S_a E rfl rfl fun _ E1 => Qc (T_n (Qb (Qb (Qa (S_m E1 rfl rfl fun _ E2 => S_v E2 rfl (QG E2 rfl rfl) rfl ?_)))))))
 clear E a E1 E2; intro a E
 refine Qc (T_n ?_)
 have hc_1 : (decide (x1 < 0)) = false := by (apply decide_eq_false; omega)
 refine Ja E rfl hc_1 ?_
 refine Qh (T_n (Qb (Qb (Qa (S_m E rfl rfl fun _ E1 => S_v E1 rfl (Qv E1 rfl rfl) rfl ?_)))))
 clear E a E1; intro a E
 refine Qc (T_n ?_)
 refine Qn E rfl (fun hc_2 => ?_) (fun hc_2 => ?_)
 ·refine Qb (Qa ?_)
  refine S_x (Jf (k := 0) E S rfl rfl rfl T22 rfl (by omega) (by omega) (by omega) ?_)
  clear E a S; rintro a w v_3 E S
  replace S := S.made0
  refine S_a E rfl rfl ?_
  clear E a; intro a E
  refine Qc (T_n (Qe ?_))
  refine T_r ?_
  have S0 := S; clear S
  obtain ⟨M_4, hM_4, hz_5, S⟩ := S0.freezeI (by ((simp; done)))
  clear S0
  replace h0 := h0.le hM_4
  replace h2 := h2.le hM_4
  exact Qg E Tryz.results158 rfl ⟨_, rfl, M_4, hM_4, (RdS.eqL hz_5 (by (rw [show x1.toNat = 0 by omega]; simp))), S⟩
 ·refine Qh (T_n (Qb (Qa (S_m E rfl rfl ?_))))
  clear E a; intro a E
  refine S_x (Jf (k := (x1).toNat) E S rfl rfl rfl T22 rfl (by omega) (by omega) (by omega) ?_)
  clear E a S; rintro a w v_6 E S
  replace S := S.made0
  refine S_a E rfl rfl fun _ E1 => Qc (T_n (Qb (Qa (S_a E1 rfl rfl fun _ E2 => Qc (T_n (Qb (Qb (Qa (S_m E2 rfl rfl fun _ E3 => S_v E3 rfl (Qp E3 rfl T22 h0.len) rfl fun _ E4 => S_m E4 rfl rfl ?_)))))))))
  clear E a E1 E2 E3 E4; intro a E
  refine Qc (T_n (Qi ?_))
  replace S := S.re1 (l' := QP f2 0 (l0.take 0)) (by (simp [QP]; done))
  refine Qx (γ := Nat) (fun (k : Nat) a w => ∃ (M_7 : Hp) (u7 : Value), Hp.le M1 M_7 ∧ St w M_7 (QR 3 u7 (QP f2 0 (l0.take k)) :: H) ∧ Env a 44 [] [(0, v0), (1, .int .i64 x1), (2, v2), (7, u7), (8, .int .i64 (((QP f2 0 (l0.take k)).length : Nat) : Int)), (19, .int .i64 (((l0).length : Nat) : Int)), (20, .int .i64 ((k : Nat) : Int))] ∧ (k ≤ (l0).length) ∧ ((QP f2 0 (l0.take k)).length < x1.toNat)) (fun k => ((l0).length) - k) 0 ⟨M1, _, Hp.le.refl _, S, E.keep ⟨rfl, rfl, rfl, rfl, QM (i := 0) rfl (by (simp [QP])), rfl, rfl, trivial⟩, by (omega), (by simp [QP]; omega)⟩ ?_
  try clear E
  try clear S
  try clear a
  try clear w
  rintro k a w ⟨M_7, u7, hM_7, S, E, hL0_0, hL0_1⟩
  replace h0 := h0.le hM_7
  replace h2 := h2.le hM_7
  have wl := Jv f2 (l0.take k) 0; simp only [List.length_take] at wl
  refine Qb (Qa (S_v E rfl (QG E rfl rfl) rfl ?_))
  clear E a; intro a E
  refine Qc (T_n (Qb ?_))
  refine Qn E rfl (fun hc_8 => ?_) (fun hc_8 => ?_)
  ·refine Qh (T_n (Qb (Qi (Qb (Qa (S_m E rfl rfl fun _ E1 => S_a E1 rfl rfl fun _ E2 => Qc (T_n (Qb (Qa (S_m E2 rfl rfl fun _ E3 => S_m E3 rfl rfl fun _ E4 => S_m E4 rfl rfl ?_))))))))))
   clear E a E1 E2 E3 E4; intro a E
   obtain ⟨x_9, hx_9⟩ : ∃ x, (l0)[k]? = some x := ⟨_, List.getElem?_eq_getElem (by omega)⟩
   obtain ⟨p_10, hp_10, qp_10⟩ := h0.at hx_9
   refine S_v E rfl (QB E rfl rfl T22 hp_10 rfl) rfl fun _ E1 => S_v E1 rfl (Qj E1 rfl Tryz.isAgg3 S.imm qp_10) rfl fun _ E2 => S_m E2 rfl rfl ?_
   clear E a E1 E2; intro a E
   refine S_x (Qr E S rfl rfl rfl (h2.2 x_9 ((k : Nat) : Int)) (Hp.le.refl _) ?_)
   clear E a S; rintro a _ w M_11 hM_11 rfl S E
   replace h0 := h0.le hM_11
   refine Qc (T_n ?_)
   refine QL E rfl (fun hc_12 => ?_) (fun hc_12 => ?_)
   ·refine Qb ?_
    refine Qa (S_m E rfl rfl fun _ E1 => S_m E1 rfl rfl fun _ E2 => S_m E2 rfl rfl ?_)
    clear E a E1 E2; intro a E
    obtain ⟨p_13, hp_13, qp_13⟩ := h0.at hx_9
    refine S_v E rfl (QB E rfl rfl T22 hp_13 rfl) rfl fun _ E1 => S_v E1 rfl (Qj E1 rfl Tryz.isAgg3 S.imm qp_13) rfl ?_
    clear E a E1; intro a E
    refine S_x (Qy (ys := [x_9]) E S rfl T22 rfl rfl rfl ?_)
    clear E a S; rintro a w v_14 E S
    replace S := S.front1
    replace S := S.front1
    refine S_x (QH (xs := QP f2 0 (l0.take k)) (ys := [x_9]) E S rfl rfl rfl T22 (by (simp at wl ⊢; omega)) ?_)
    clear E a S; rintro a w v_15 E S
    refine S_a E rfl rfl fun _ E1 => Qc (T_n (Qb (Qa (S_m E1 rfl rfl fun _ E2 => S_v E2 rfl (Qq (m := (((QP f2 0 (l0.take k)).length + 1 : Nat) : Int)) E2 rfl rfl (by omega) (by omega)) rfl fun _ E3 => S_a E3 rfl rfl fun _ E4 => Qc (T_n (Qb (Qa (S_m E4 rfl rfl fun _ E5 => S_m E5 rfl rfl ?_))))))))
    clear E a E1 E2 E3 E4 E5; intro a E
    refine S_v E rfl (YV E rfl rfl) rfl ?_
    clear E a; intro a E
    refine Qc (T_n ?_)
    refine Qn E rfl (fun hc_16 => ?_) (fun hc_16 => ?_)
    ·refine Qt ?_
     refine B_y rfl ?_
     refine T_x (T_x (B_x (T_n (Qb (Qa (S_m E rfl rfl fun _ E1 => S_a E1 rfl rfl ?_))))))
     clear E a E1; intro a E
     refine Qc (T_n (Qe ?_))
     have S0 := S; clear S
     obtain ⟨M_17, hM_17, hz_18, S⟩ := S0.freezeI (by (have wl := Jv f2 (l0.take k) 0; simp at wl ⊢; omega))
     clear S0
     exact Qg E Tryz.results158 rfl ⟨_, rfl, M_17, (hM_7.trans (hM_11.trans hM_17)), (RdS.eqL hz_18 (by ((symm; apply za (filtI_step (by assumption) (by assumption)); simp; omega)))), S⟩
    ·refine Qh (B_n (T_n (Qa (S_v E rfl (Qq (m := ((k + 1 : Nat) : Int)) E rfl rfl (by omega) (by omega)) rfl fun _ E1 => S_m E1 rfl rfl ?_))))
     clear E a E1; intro a E
     refine Qc (T_n ?_)
     replace S := S.re1 (l' := QP f2 0 (l0.take (k + 1))) (by (rw [Jb (by assumption)]; simp [*]; done))
     exact ⟨k + 1, ⟨M_11, _, (hM_7.trans hM_11), S, E.keep ⟨rfl, rfl, rfl, rfl, QM (i := (QP f2 0 (l0.take k)).length + 1) rfl (by ((rw [Jb (by assumption)]; simp [*]; done))), rfl, rfl, trivial⟩, by (omega), (by (rw [Jb (by assumption)]; simp [*]; omega))⟩, by omega⟩
   ·refine Qh ?_
    refine B_n (T_n (Qa (S_v E rfl (Qq (m := ((k + 1 : Nat) : Int)) E rfl rfl (by omega) (by omega)) rfl fun _ E1 => S_m E1 rfl rfl ?_)))
    clear E a E1; intro a E
    refine Qc (T_n ?_)
    replace S := S.re1 (l' := QP f2 0 (l0.take (k + 1))) (by (rw [Jb (by assumption)]; simp [*]; done))
    exact ⟨k + 1, ⟨M_11, _, (hM_7.trans hM_11), S, E.keep ⟨rfl, rfl, rfl, rfl, QM (i := (QP f2 0 (l0.take k)).length) rfl (by ((rw [Jb (by assumption)]; simp [*]; done))), rfl, rfl, trivial⟩, by (omega), (by (rw [Jb (by assumption)]; simp_all; done))⟩, by omega⟩
  ·refine Qt (T_x (T_x (B_x (T_n (Qb (Qa (S_m E rfl rfl fun _ E1 => S_a E1 rfl rfl ?_)))))))
   clear E a E1; intro a E
   refine Qc (T_n (Qe ?_))
   have S0 := S; clear S
   obtain ⟨M_19, hM_19, hz_20, S⟩ := S0.freezeI (by (have wl := Jv f2 (l0.take k) 0; simp at wl ⊢; omega))
   clear S0
   exact Qg E Tryz.results158 rfl ⟨_, rfl, M_19, (hM_7.trans hM_19), (RdS.eqL hz_20 (by ((rw [List.take_of_length_le (l := l0) (by omega)] at *; rw [List.take_of_length_le (by omega)]; done)))), S⟩
theorem GR {M : Hp} {v0 : Value} {l0 : List Int} (hb : l0.length ≤ 1000000000000) {c1 : Int} (g1 : 0 ≤ c1 ∧ c1 ≤ 1000000) {bx0 bx1 : Nat} (hbx0 : M bx0 = some (.cells #[v0] 22)) (h0 : RdI M v0 l0) (hbx1 : M bx1 = some (.cells #[.int .i64 c1] 3)) {pk2 pn2 : Int} {w2 : Value} {pl2 : List Int} (hw2 : RdI M w2 pl2) (gn2 : -9223372036854775808 ≤ pn2 ∧ pn2 ≤ 9223372036854775807) {bx2 : Nat} (hbx2 : M bx2 = some (.cells #[.int .i64 pk2, .int .i64 pn2, w2] 27)) :
  Pu Tryz.prog (.func (.func 157) #[] #[.pointer (some ⟨bx0, 0, none⟩), .pointer (some ⟨bx1, 0, none⟩), .pointer (some ⟨bx2, 0, none⟩)]) M [] (fun r M' => RdI M' r ((QP (QF pk2 pn2 pl2) 0 l0).take (c1 : Int).toNat)) := by
 refine Qk Tryz.func157 rfl Tryz.ntmps157 rfl Tryz.call157 ?_
 intro a w M1 H hM1 S E
 replace hbx0 := hM1.2 _ _ hbx0
 replace hbx1 := hM1.2 _ _ hbx1
 replace h0 := h0.le hM1
 replace hbx2 := hM1.2 _ _ hbx2
 replace hw2 := hw2.le hM1
 have b0 := h0.bound
 have hfl := Jv (QF pk2 pn2 pl2) l0 0
 refine Qb (Qa (S_a E rfl rfl fun _ E1 => Qc (T_n (Qb (Qa (S_v E1 rfl (Qj E1 rfl Tryz.isAgg22 S.imm (Jw hbx0)) rfl fun _ E2 => S_v E2 rfl (Qj E2 rfl Tryz.isAgg3 S.imm (Jw hbx1)) rfl fun _ E3 => S_v E3 rfl (QA E3 rfl (Tryz.isAgg27 _) (Tryz.sizeOf27 _) S.imm hbx2) rfl fun _ E4 => S_v E4 rfl (QT E4 rfl rfl) rfl ?_))))))
 clear E a E1 E2 E3 E4; intro a E
 refine S_x (Qr E S rfl rfl rfl (jv h0 ⟨rfl, fun zx1 zx2 => vm (x1 := zx1) (x2 := zx2) hw2 (by omega)⟩ (by omega) (by (omega))) (Hp.le.refl _) ?_)
 clear E a S; rintro a v_2 w M_1 hM_1 hv_2 S E
 refine S_a E rfl rfl ?_
 clear E a; intro a E
 refine Qc (T_n (Qe ?_))
 exact Qg E Tryz.results157 rfl ⟨_, rfl, M_1, hM_1, hv_2, S⟩
theorem qC {M : Hp} {v0 : Value} {l0 : List Int} (h0 : RdI M v0 l0){x1 : Int} {pk2 pn2 : Int} {w2 : Value} {pl2 : List Int} (hw2 : RdI M w2 pl2) (gn2 : -9223372036854775808 ≤ pn2 ∧ pn2 ≤ 9223372036854775807) (hb : l0.length ≤ 1000000000000) (g1 : 0 ≤ x1 ∧ x1 ≤ 1000000) :
  Pu Tryz.prog (.func (.func 63) #[] #[]) M [v0, .int .i64 x1, .agg #[.int .i64 pk2, .int .i64 pn2, w2]] (fun r M' => ∃ t0, r = .tuple #[t0, .bool true] ∧ RdI M' t0 ((QP (QF pk2 pn2 pl2) 0 l0).take (x1 : Int).toNat)) := by
 refine Qk Tryz.func63 rfl Tryz.ntmps63 rfl Tryz.call63 ?_
 intro a w M1 H hM1 S E
 replace h0 := h0.le hM1
 replace hw2 := hw2.le hM1
 have b0 := h0.bound
 refine Qb (Qa ?_)
 refine S_x (Jc (cs := #[v0]) E S rfl rfl (cells_one (RdS.one' h0)) ?_)
 clear E a S; rintro a w b_1 E S
 obtain ⟨M_2, hM_2, hb_1, S⟩ := S.freezeB
 replace h0 := h0.le hM_2
 replace hw2 := hw2.le hM_2
 refine S_x (Jc (cs := #[.int .i64 x1]) E S rfl rfl rfl ?_)
 clear E a S; rintro a w b_3 E S
 obtain ⟨M_4, hM_4, hb_3, S⟩ := S.freezeB
 replace h0 := h0.le hM_4
 replace hw2 := hw2.le hM_4
 replace hb_1 := hM_4.2 _ _ hb_1
 refine S_x (Jc (cs := #[.int .i64 pk2, .int .i64 pn2, w2]) E S rfl rfl rfl ?_)
 clear E a S; rintro a w b_5 E S
 obtain ⟨M_6, hM_6, hb_5, S⟩ := S.freezeB
 replace h0 := h0.le hM_6
 replace hw2 := hw2.le hM_6
 replace hb_1 := hM_6.2 _ _ hb_1
 replace hb_3 := hM_6.2 _ _ hb_3
 refine S_a E rfl rfl fun _ E1 => S_a E1 rfl rfl fun _ E2 => Qc (T_n (Qb (Qa (S_v E2 rfl (QT E2 rfl rfl) rfl ?_))))
 clear E a E1 E2; intro a E
 refine S_x (Qr E S rfl rfl rfl (Us ⟨rfl, GR  (by omega) (by omega) hb_1 h0 hb_3 hw2 (by omega) hb_5⟩) (Hp.le.refl _) ?_)
 clear E a S; rintro a _ w M_7 hM_7 ⟨v_8, rfl, hv_8⟩ S E
 refine S_v E rfl (Qm E rfl rfl) rfl fun _ E1 => S_v E1 rfl (Qm E1 rfl rfl) rfl fun _ E2 => S_a E2 rfl rfl fun _ E3 => S_a E3 rfl rfl ?_
 clear E a E1 E2 E3; intro a E
 refine Qc (T_n (Qe ?_))
 exact Jt E Tryz.results63 rfl rfl ⟨_, rfl, M_7, (hM_2.trans (hM_4.trans (hM_6.trans hM_7))), ⟨_, (by rfl), (RdS.eqL hv_8 (by (rfl)))⟩, S⟩
theorem ZO {M : Hp} {v0 : Value} {l0 : List Int} (h0 : RdI M v0 l0) :
  Sp Tryz.prog (.func (.func 240) #[] #[]) M [v0] [] (fun r M' C' => ∃ b, r = .map (some b) ∧ C' = [Zs b (QC l0)]) := by
 refine Wg Tryz.func240 rfl Tryz.ntmps240 rfl Tryz.call240 ?_
 intro a w M1 H hM1 S E
 replace h0 := h0.le hM1
 have b0 := h0.bound
 refine Qb (Qa (S_a E rfl rfl fun _ E1 => Qc (T_n (Qb (Qa (S_m E1 rfl rfl fun _ E2 => S_v E2 rfl (Qp E2 rfl T22 h0.len) rfl ?_))))))
 clear E a E1 E2; intro a E
 refine S_x (ZB E S rfl Yg rfl ?_)
 clear E a S; rintro a w b_1 E S
 replace S : St w M1 (Zs b_1 ([] : List Int) :: _) := S
 refine S_a E rfl rfl fun _ E1 => Qc (T_n (Qb (Qb (Qa (S_m E1 rfl rfl fun _ E2 => S_v E2 rfl (Qp E2 rfl T22 h0.len) rfl fun _ E3 => S_m E3 rfl rfl ?_)))))
 clear E a E1 E2 E3; intro a E
 refine Qc (T_n (Qi ?_))
 replace S := S.reM (L' := (Sl.encS (QC (l0.take 0)))) (congrArg Sl.encS (show ([] : List Int) = QC (l0.take 0) by first | (simp [QC]; done) | exact (YF (by assumption)).symm))
 refine Qx (γ := Nat) (fun (k : Nat) a w => ∃ (M_2 : Hp), Hp.le M1 M_2 ∧ St w M_2 (Zs b_1 (QC (l0.take k)) :: H) ∧ Env a 21 [] [(0, v0), (3, .map (some b_1)), (9, .int .i64 (((l0).length : Nat) : Int)), (10, .int .i64 ((k : Nat) : Int))] ∧ (k ≤ (l0).length)) (fun k => ((l0).length) - k) 0 ⟨M1, Hp.le.refl _, S, E.keep ⟨rfl, rfl, rfl, rfl, trivial⟩, by (omega)⟩ ?_
 try clear E
 try clear S
 try clear a
 try clear w
 rintro k a w ⟨M_2, hM_2, S, E, hL0_0⟩
 replace h0 := h0.le hM_2
 refine Qb (Qa (S_v E rfl (QG E rfl rfl) rfl ?_))
 clear E a; intro a E
 refine Qc (T_n (Qb ?_))
 refine Qn E rfl (fun hc_3 => ?_) (fun hc_3 => ?_)
 ·refine Qh (T_n (Qb (Qi (Qb (Qa (S_m E rfl rfl fun _ E1 => S_a E1 rfl rfl fun _ E2 => Qc (T_n (Qa (S_m E2 rfl rfl fun _ E3 => S_m E3 rfl rfl fun _ E4 => S_m E4 rfl rfl ?_)))))))))
  clear E a E1 E2 E3 E4; intro a E
  obtain ⟨x_4, hx_4⟩ : ∃ x, (l0)[k]? = some x := ⟨_, List.getElem?_eq_getElem (by omega)⟩
  obtain ⟨p_5, hp_5, qp_5⟩ := h0.at hx_4
  refine S_v E rfl (QB E rfl rfl T22 hp_5 rfl) rfl fun _ E1 => S_v E1 rfl (Qj E1 rfl Tryz.isAgg3 S.imm qp_5) rfl fun _ E2 => S_v E2 rfl (VE (u := .agg #[]) (vs := []) E2 rfl (fun w => qQ  w)) rfl ?_
  clear E a E1 E2; intro a E
  refine Zr (Wz E S Yg rfl rfl rfl ?_)
  clear E a S; rintro a w E S
  refine Qc (B_n (T_n (Qa (S_v E rfl (Qq (m := ((k + 1 : Nat) : Int)) E rfl rfl (by omega) (by omega)) rfl fun _ E1 => S_m E1 rfl rfl ?_))))
  clear E a E1; intro a E
  refine Qc (T_n ?_)
  replace S := S.reM (L' := (Sl.encS (QC (l0.take (k + 1))))) (congrArg Sl.encS (show Ye (QC (l0.take k)) x_4 = QC (l0.take (k + 1)) by first | (simp [QC]; done) | exact (YF (by assumption)).symm))
  exact ⟨k + 1, ⟨M_2, hM_2, S, E.keep ⟨rfl, rfl, rfl, rfl, trivial⟩, by (omega)⟩, by omega⟩
 ·refine Qt (T_x (T_x (B_x (T_n (Qb (Qa (S_m E rfl rfl fun _ E1 => S_a E1 rfl rfl ?_)))))))
  clear E a E1; intro a E
  refine Qc (T_n (Qe ?_))
  replace S := S.reM (L' := (Sl.encS (QC l0))) (congrArg Sl.encS (show QC (l0.take k) = QC l0 by (rw [List.take_of_length_le (by omega)])))
  exact Qg E Tryz.results240 rfl ⟨_, rfl, M_2, _, hM_2, ⟨_, rfl, rfl⟩, S⟩
theorem jr {M : Hp} {v0 v1 : Value} {l0 l1 : List Int} (h0 : RdI M v0 l0) (h1 : RdI M v1 l1)(hb : l0.length ≤ 1000000000000) :
  Pu Tryz.prog (.func (.func 159) #[] #[]) M [v0, v1] (fun r M' => RdI M' r (Vm l0 l1)) := by
 refine Qk Tryz.func159 rfl Tryz.ntmps159 rfl Tryz.call159 ?_
 intro a w M1 H hM1 S E
 replace h0 := h0.le hM1
 replace h1 := h1.le hM1
 have b0 := h0.bound
 have b1 := h1.bound
 refine Qb (Qa (S_a E rfl rfl fun _ E1 => Qc (T_n (Qb (Qa (S_m E1 rfl rfl ?_))))))
 clear E a E1; intro a E
 refine S_x (Vv (p := []) E S rfl rfl rfl (ZO h1) (Hp.le.refl _) ?_)
 clear E a S; rintro a _ w M_1 _ hM_1 ⟨v_2, rfl, rfl⟩ S E
 replace S : St w M_1 (Zs v_2 (QC l1) :: _) := S
 replace h0 := h0.le hM_1
 refine S_a E rfl rfl fun _ E1 => Qc (T_n (Qb (Qa (S_m E1 rfl rfl fun _ E2 => S_v E2 rfl (Qp E2 rfl T22 h0.len) rfl ?_))))
 clear E a E1 E2; intro a E
 refine S_x (Jf (k := (l0).length) E S rfl rfl rfl T22 rfl (by omega) (by omega) (by omega) ?_)
 clear E a S; rintro a w v_3 E S
 replace S := S.made0
 refine S_a E rfl rfl fun _ E1 => Qc (T_n (Qb (Qb (Qa (S_m E1 rfl rfl fun _ E2 => S_v E2 rfl (Qp E2 rfl T22 h0.len) rfl fun _ E3 => S_m E3 rfl rfl ?_)))))
 clear E a E1 E2 E3; intro a E
 refine Qc (T_n (Qi ?_))
 replace S := S.re1 (l' := Vm (l0.take 0) (QC l1)) (by (unfold Vm; first | (simp [QP]; done) | (rw [Jb (by assumption)]; simp_all; done) | (rw [Jb (List.getElem?_eq_getElem (show k < l0.length by omega))]; simp_all; done)))
 refine Qx (γ := Nat) (fun (k : Nat) a w => ∃ (M_4 : Hp) (u6 : Value), Hp.le M_1 M_4 ∧ St w M_4 (QR 3 u6 (Vm (l0.take k) (QC l1)) :: Zs v_2 (QC l1) :: H) ∧ Env a 37 [] [(0, v0), (5, .map (some v_2)), (6, u6), (16, .int .i64 (((l0).length : Nat) : Int)), (17, .int .i64 ((k : Nat) : Int))] ∧ (k ≤ (l0).length)) (fun k => ((l0).length) - k) 0 ⟨M_1, _, Hp.le.refl _, S, E.keep ⟨rfl, rfl, rfl, rfl, rfl, trivial⟩, by (omega)⟩ ?_
 try clear E
 try clear S
 try clear a
 try clear w
 rintro k a w ⟨M_4, u6, hM_4, S, E, hL0_0⟩
 replace h0 := h0.le hM_4
 have wl := Jv (fun _ i => !decide (i ∈ QC l1)) (l0.take k) 0
 refine Qb (Qa (S_v E rfl (QG E rfl rfl) rfl ?_))
 clear E a; intro a E
 refine Qc (T_n (Qb ?_))
 refine Qn E rfl (fun hc_5 => ?_) (fun hc_5 => ?_)
 ·refine Qh (T_n (Qb (Qi (Qb (Qa (S_m E rfl rfl fun _ E1 => S_a E1 rfl rfl fun _ E2 => Qc (T_n (Qb (Qa (S_m E2 rfl rfl fun _ E3 => S_m E3 rfl rfl ?_))))))))))
  clear E a E1 E2 E3; intro a E
  replace S := S.front1
  refine S_x (ZF E S rfl Yg rfl rfl ?_)
  clear E a S; rintro a w E S
  replace S : St w M_4 (Zs v_2 (QC l1) :: _) := S
  refine S_m E rfl rfl fun _ E1 => S_v E1 rfl (Qm E1 rfl rfl) rfl fun _ E2 => S_v E2 rfl (Qm E2 rfl rfl) rfl ?_
  clear E a E1 E2; intro a E
  refine S_x (Jp (cs := #[]) E S rfl Tryz.zeroValue117 rfl ?_)
  clear E a S; rintro a w b_6 E S
  refine Zr (Jz (us := []) E S rfl rfl (Tryz.sizeOf117 _) rfl (by intro u hu; cases hu) ?_)
  clear E a S; rintro a w E S
  replace S : St w M_4 (blk b_6 (.cells #[] 117) :: _) := S
  have S0 := S; clear S
  obtain ⟨M_7, hM_7, hb_8, S⟩ := S0.freezeB
  clear S0
  replace h0 := h0.le hM_7
  refine S_a E rfl rfl fun _ E1 => Qc (T_n (Qb (Qa (S_m E1 rfl rfl fun _ E2 => S_v E2 rfl (Zk E2 rfl) rfl ?_))))
  clear E a E1 E2; intro a E
  refine Qc (T_n ?_)
  refine QL E rfl (fun hc_9 => ?_) (fun hc_9 => ?_)
  ·refine Qa ?_
   refine S_m E rfl rfl fun _ E1 => S_m E1 rfl rfl fun _ E2 => S_m E2 rfl rfl ?_
   clear E a E1 E2; intro a E
   obtain ⟨x_10, hx_10⟩ : ∃ x, (l0)[k]? = some x := ⟨_, List.getElem?_eq_getElem (by omega)⟩
   obtain ⟨p_11, hp_11, qp_11⟩ := h0.at hx_10
   refine S_v E rfl (QB E rfl rfl T22 hp_11 rfl) rfl fun _ E1 => S_v E1 rfl (Qj E1 rfl Tryz.isAgg3 S.imm qp_11) rfl ?_
   clear E a E1; intro a E
   refine S_x (Qy (ys := [x_10]) E S rfl T22 rfl rfl rfl ?_)
   clear E a S; rintro a w v_12 E S
   replace S := S.front2
   replace S := S.front1
   refine S_x (QH (xs := Vm (l0.take k) (QC l1)) (ys := [x_10]) E S rfl rfl rfl T22 (by (unfold Vm; simp at wl ⊢; omega)) ?_)
   clear E a S; rintro a w v_13 E S
   refine S_a E rfl rfl fun _ E1 => Qc (B_n (T_n (Qa (S_v E1 rfl (Qq (m := ((k + 1 : Nat) : Int)) E1 rfl rfl (by omega) (by omega)) rfl fun _ E2 => S_m E2 rfl rfl ?_))))
   clear E a E1 E2; intro a E
   refine Qc (T_n ?_)
   replace S := S.re1 (l' := Vm (l0.take (k + 1)) (QC l1)) (by (unfold Vm; first | (simp [QP]; done) | (rw [Jb (by assumption)]; simp_all; done) | (rw [Jb (List.getElem?_eq_getElem (show k < l0.length by omega))]; simp_all; done)))
   exact ⟨k + 1, ⟨M_7, _, (hM_4.trans hM_7), S, E.keep ⟨rfl, rfl, rfl, rfl, rfl, trivial⟩, by (omega)⟩, by omega⟩
  ·refine Qh ?_
   refine B_n (T_n (Qa (S_v E rfl (Qq (m := ((k + 1 : Nat) : Int)) E rfl rfl (by omega) (by omega)) rfl fun _ E1 => S_m E1 rfl rfl ?_)))
   clear E a E1; intro a E
   refine Qc (T_n ?_)
   replace S := S.front1
   replace S := S.re1 (l' := Vm (l0.take (k + 1)) (QC l1)) (by (unfold Vm; first | (simp [QP]; done) | (rw [Jb (by assumption)]; simp_all; done) | (rw [Jb (List.getElem?_eq_getElem (show k < l0.length by omega))]; simp_all; done)))
   exact ⟨k + 1, ⟨M_7, _, (hM_4.trans hM_7), S, E.keep ⟨rfl, rfl, rfl, rfl, rfl, trivial⟩, by (omega)⟩, by omega⟩
 ·refine Qt (T_x (T_x (B_x (T_n (Qb (Qa (S_m E rfl rfl fun _ E1 => S_a E1 rfl rfl ?_)))))))
  clear E a E1; intro a E
  refine Qc (T_n (Qe ?_))
  have S0 := S; clear S
  obtain ⟨M_14, hM_14, hz_15, S⟩ := S0.freezeI (by (have wl := Jv (fun _ i => !decide (i ∈ QC l1)) (l0.take k) 0; unfold Vm; simp at wl ⊢; omega))
  clear S0
  exact Qg E Tryz.results159 rfl ⟨_, rfl, M_14, (hM_1.trans (hM_4.trans hM_14)), (RdS.eqL hz_15 (by (rw [List.take_of_length_le (by omega)]; unfold Vm; simp only [JZ]))), S.drop⟩
theorem qz {M : Hp} {v0 v1 : Value} {l0 l1 : List Int} (h0 : RdI M v0 l0) (h1 : RdI M v1 l1)(hb : l0.length ≤ 1000000000000) :
  Pu Tryz.prog (.func (.func 64) #[] #[]) M [v0, v1] (fun r M' => RdI M' r (Vm l0 l1)) := by
 refine Qk Tryz.func64 rfl Tryz.ntmps64 rfl Tryz.call64 ?_
 intro a w M1 H hM1 S E
 replace h0 := h0.le hM1
 replace h1 := h1.le hM1
 have b0 := h0.bound
 have b1 := h1.bound
 refine Qb (Qa (S_a E rfl rfl fun _ E1 => Qc (T_n (Qb (Qa (S_m E1 rfl rfl fun _ E2 => S_m E2 rfl rfl ?_))))))
 clear E a E1 E2; intro a E
 refine S_x (Qr E S rfl rfl rfl (jr h0 h1 (by (omega))) (Hp.le.refl _) ?_)
 clear E a S; rintro a v_2 w M_1 hM_1 hv_2 S E
 refine S_a E rfl rfl ?_
 clear E a; intro a E
 refine Qc (T_n (Qe ?_))
 exact Qg E Tryz.results64 rfl ⟨_, rfl, M_1, hM_1, hv_2, S⟩
theorem lo_Slice {M : Hp} {v0 : Value} {l0 : List Int} (h0 : RdI M v0 l0){x1 x2 : Int} (g1 : -9223372036854775808 ≤ x1 ∧ x1 ≤ 9223372036854775807) (g2 : -9223372036854775808 ≤ x2 ∧ x2 ≤ 9223372036854775807) :
  Pu Tryz.prog (.func (.func 160) #[] #[]) M [v0, .int .i64 x1, .int .i64 x2] (fun r M' => RdI M' r (QS l0 x1 x2)) := by
 refine Qk Tryz.func160 rfl Tryz.ntmps160 rfl Tryz.call160 ?_
 intro a w M1 H hM1 S E
 replace h0 := h0.le hM1
 have b0 := h0.bound
 refine Qb (Qa (S_a E rfl rfl fun _ E1 => Qc (T_n (Qb (Qb (Qa (S_m E1 rfl rfl fun _ E2 => S_m E2 rfl rfl fun _ E3 => S_v E3 rfl (YV E3 rfl rfl) rfl ?_)))))))
 clear E a E1 E2 E3; intro a E
 refine Qc (T_n ?_)
 refine Qn E rfl (fun hc_1 => ?_) (fun hc_1 => ?_)
 ·refine Qb (Qa ?_)
  refine S_x (Qy (ys := []) E S rfl T22 rfl rfl rfl ?_)
  clear E a S; rintro a w v_2 E S
  refine S_a E rfl rfl ?_
  clear E a; intro a E
  refine Qc (T_n (Qe ?_))
  refine T_r ?_
  have S0 := S; clear S
  obtain ⟨M_3, hM_3, hz_4, S⟩ := S0.freezeI (by ((simp; done)))
  clear S0
  replace h0 := h0.le hM_3
  exact Qg E Tryz.results160 rfl ⟨_, rfl, M_3, hM_3, (RdS.eqL hz_4 (by (clear E S; unfold QS; first | (apply List.eq_nil_of_length_eq_zero; simp; omega) | exact WH (by omega) (by omega)))), S⟩
 ·refine Qh (T_n (Qb (Qa (S_m E rfl rfl fun _ E1 => S_v E1 rfl (Qp E1 rfl T22 h0.len) rfl fun _ E2 => S_a E2 rfl rfl fun _ E3 => Qc (T_n (Qb (Qb (Qa (S_m E3 rfl rfl fun _ E4 => S_v E4 rfl (QG E4 rfl rfl) rfl ?_)))))))))
  clear E a E1 E2 E3 E4; intro a E
  refine Qc (T_n ?_)
  refine Qn E rfl (fun hc_5 => ?_) (fun hc_5 => ?_)
  ·refine Qa (S_a E rfl rfl fun _ E1 => Qc (T_n (Qb (Qb (Qa (S_m E1 rfl rfl fun _ E2 => S_v E2 rfl (QG E2 rfl rfl) rfl ?_))))))
   clear E a E1 E2; intro a E
   refine Qc (T_n ?_)
   refine Qn E rfl (fun hc_6 => ?_) (fun hc_6 => ?_)
   ·refine Qa (S_a E rfl rfl fun _ E1 => Qc (T_n (Qb (Qa (S_m E1 rfl rfl fun _ E2 => S_m E2 rfl rfl fun _ E3 => S_m E3 rfl rfl ?_)))))
    clear E a E1 E2 E3; intro a E
    obtain ⟨v_7, sv_7, hv_7⟩ := h0.subv 0 0 (by omega) (by omega)
    replace hv_7 : RdI M1 v_7 (((l0).take 0).drop 0) := hv_7
    refine S_v E rfl (Je E rfl rfl rfl T22 sv_7 (by omega) (by omega)) rfl fun _ E1 => S_a E1 rfl rfl ?_
    clear E a E1; intro a E
    refine Qc (T_n (Qe ?_))
    exact Qg E Tryz.results160 rfl ⟨_, rfl, M1, (Hp.le.refl _), (RdS.eqL hv_7 (by (clear E S; unfold QS; first | (apply List.eq_nil_of_length_eq_zero; simp; omega) | exact WH (by omega) (by omega)))), S⟩
   ·refine Qb (Qa (S_m E rfl rfl fun _ E1 => S_m E1 rfl rfl fun _ E2 => S_v E2 rfl (JT E2 rfl rfl) rfl ?_))
    clear E a E1 E2; intro a E
    refine Qc (T_n ?_)
    refine Qn E rfl (fun hc_8 => ?_) (fun hc_8 => ?_)
    ·refine Qa (S_m E rfl rfl fun _ E1 => S_a E1 rfl rfl fun _ E2 => Qc (T_n (Qb (Qa (S_m E2 rfl rfl fun _ E3 => S_m E3 rfl rfl fun _ E4 => S_m E4 rfl rfl ?_)))))
     clear E a E1 E2 E3 E4; intro a E
     obtain ⟨v_9, sv_9, hv_9⟩ := h0.subv 0 ((l0).length) (by omega) (by omega)
     replace hv_9 : RdI M1 v_9 (((l0).take ((l0).length)).drop 0) := hv_9
     refine S_v E rfl (Je E rfl rfl rfl T22 sv_9 (by omega) (by omega)) rfl fun _ E1 => S_a E1 rfl rfl ?_
     clear E a E1; intro a E
     refine Qc (T_n (Qe ?_))
     exact Qg E Tryz.results160 rfl ⟨_, rfl, M1, (Hp.le.refl _), (RdS.eqL hv_9 (by (clear E S; unfold QS; first | (apply List.eq_nil_of_length_eq_zero; simp; omega) | exact WH (by omega) (by omega)))), S⟩
    ·refine Qh (T_n (Qb (Qa (S_m E rfl rfl fun _ E1 => S_m E1 rfl rfl fun _ E2 => S_m E2 rfl rfl ?_))))
     clear E a E1 E2; intro a E
     obtain ⟨v_10, sv_10, hv_10⟩ := h0.subv 0 ((x2).toNat) (by omega) (by omega)
     replace hv_10 : RdI M1 v_10 (((l0).take ((x2).toNat)).drop 0) := hv_10
     refine S_v E rfl (Je E rfl rfl rfl T22 sv_10 (by omega) (by omega)) rfl fun _ E1 => S_a E1 rfl rfl ?_
     clear E a E1; intro a E
     refine Qc (T_n (Qe ?_))
     exact Qg E Tryz.results160 rfl ⟨_, rfl, M1, (Hp.le.refl _), (RdS.eqL hv_10 (by (clear E S; unfold QS; first | (apply List.eq_nil_of_length_eq_zero; simp; omega) | exact WH (by omega) (by omega)))), S⟩
  ·refine Qb (Qa (S_m E rfl rfl fun _ E1 => S_m E1 rfl rfl fun _ E2 => S_v E2 rfl (JT E2 rfl rfl) rfl ?_))
   clear E a E1 E2; intro a E
   refine Qc (T_n ?_)
   refine Qn E rfl (fun hc_11 => ?_) (fun hc_11 => ?_)
   ·refine Qa (S_m E rfl rfl fun _ E1 => S_a E1 rfl rfl fun _ E2 => Qc (T_n (Qb (Qb (Qa (S_m E2 rfl rfl fun _ E3 => S_v E3 rfl (QG E3 rfl rfl) rfl ?_))))))
    clear E a E1 E2 E3; intro a E
    refine Qc (T_n ?_)
    refine Qn E rfl (fun hc_12 => ?_) (fun hc_12 => ?_)
    ·refine Qa (S_a E rfl rfl fun _ E1 => Qc (T_n (Qb (Qa (S_m E1 rfl rfl fun _ E2 => S_m E2 rfl rfl fun _ E3 => S_m E3 rfl rfl ?_)))))
     clear E a E1 E2 E3; intro a E
     obtain ⟨v_13, sv_13, hv_13⟩ := h0.subv ((l0).length) 0 (by omega) (by omega)
     replace hv_13 : RdI M1 v_13 (((l0).take 0).drop ((l0).length)) := hv_13
     refine S_v E rfl (Je E rfl rfl rfl T22 sv_13 (by omega) (by omega)) rfl fun _ E1 => S_a E1 rfl rfl ?_
     clear E a E1; intro a E
     refine Qc (T_n (Qe ?_))
     exact Qg E Tryz.results160 rfl ⟨_, rfl, M1, (Hp.le.refl _), (RdS.eqL hv_13 (by (clear E S; unfold QS; first | (apply List.eq_nil_of_length_eq_zero; simp; omega) | exact WH (by omega) (by omega)))), S⟩
    ·refine Qb (Qa (S_m E rfl rfl fun _ E1 => S_m E1 rfl rfl fun _ E2 => S_v E2 rfl (JT E2 rfl rfl) rfl ?_))
     clear E a E1 E2; intro a E
     refine Qc (T_n ?_)
     refine Qn E rfl (fun hc_14 => ?_) (fun hc_14 => ?_)
     ·refine Qa (S_m E rfl rfl fun _ E1 => S_a E1 rfl rfl fun _ E2 => Qc (T_n (Qb (Qa (S_m E2 rfl rfl fun _ E3 => S_m E3 rfl rfl fun _ E4 => S_m E4 rfl rfl ?_)))))
      clear E a E1 E2 E3 E4; intro a E
      obtain ⟨v_15, sv_15, hv_15⟩ := h0.subv ((l0).length) ((l0).length) (by omega) (by omega)
      replace hv_15 : RdI M1 v_15 (((l0).take ((l0).length)).drop ((l0).length)) := hv_15
      refine S_v E rfl (Je E rfl rfl rfl T22 sv_15 (by omega) (by omega)) rfl fun _ E1 => S_a E1 rfl rfl ?_
      clear E a E1; intro a E
      refine Qc (T_n (Qe ?_))
      exact Qg E Tryz.results160 rfl ⟨_, rfl, M1, (Hp.le.refl _), (RdS.eqL hv_15 (by (clear E S; unfold QS; first | (apply List.eq_nil_of_length_eq_zero; simp; omega) | exact WH (by omega) (by omega)))), S⟩
     ·refine Qh (T_n (Qb (Qa (S_m E rfl rfl fun _ E1 => S_m E1 rfl rfl fun _ E2 => S_m E2 rfl rfl ?_))))
      clear E a E1 E2; intro a E
      obtain ⟨v_16, sv_16, hv_16⟩ := h0.subv ((l0).length) ((x2).toNat) (by omega) (by omega)
      replace hv_16 : RdI M1 v_16 (((l0).take ((x2).toNat)).drop ((l0).length)) := hv_16
      refine S_v E rfl (Je E rfl rfl rfl T22 sv_16 (by omega) (by omega)) rfl fun _ E1 => S_a E1 rfl rfl ?_
      clear E a E1; intro a E
      refine Qc (T_n (Qe ?_))
      exact Qg E Tryz.results160 rfl ⟨_, rfl, M1, (Hp.le.refl _), (RdS.eqL hv_16 (by (clear E S; unfold QS; first | (apply List.eq_nil_of_length_eq_zero; simp; omega) | exact WH (by omega) (by omega)))), S⟩
   ·refine Qh (T_n (Qb (Qb (Qa (S_m E rfl rfl fun _ E1 => S_v E1 rfl (QG E1 rfl rfl) rfl ?_)))))
    clear E a E1; intro a E
    refine Qc (T_n ?_)
    refine Qn E rfl (fun hc_17 => ?_) (fun hc_17 => ?_)
    ·refine Qa (S_a E rfl rfl fun _ E1 => Qc (T_n (Qb (Qa (S_m E1 rfl rfl fun _ E2 => S_m E2 rfl rfl fun _ E3 => S_m E3 rfl rfl ?_)))))
     clear E a E1 E2 E3; intro a E
     obtain ⟨v_18, sv_18, hv_18⟩ := h0.subv ((x1).toNat) 0 (by omega) (by omega)
     replace hv_18 : RdI M1 v_18 (((l0).take 0).drop ((x1).toNat)) := hv_18
     refine S_v E rfl (Je E rfl rfl rfl T22 sv_18 (by omega) (by omega)) rfl fun _ E1 => S_a E1 rfl rfl ?_
     clear E a E1; intro a E
     refine Qc (T_n (Qe ?_))
     exact Qg E Tryz.results160 rfl ⟨_, rfl, M1, (Hp.le.refl _), (RdS.eqL hv_18 (by (clear E S; unfold QS; first | (apply List.eq_nil_of_length_eq_zero; simp; omega) | exact WH (by omega) (by omega)))), S⟩
    ·refine Qb (Qa (S_m E rfl rfl fun _ E1 => S_m E1 rfl rfl fun _ E2 => S_v E2 rfl (JT E2 rfl rfl) rfl ?_))
     clear E a E1 E2; intro a E
     refine Qc (T_n ?_)
     refine Qn E rfl (fun hc_19 => ?_) (fun hc_19 => ?_)
     ·refine Qa (S_m E rfl rfl fun _ E1 => S_a E1 rfl rfl fun _ E2 => Qc (T_n (Qb (Qa (S_m E2 rfl rfl fun _ E3 => S_m E3 rfl rfl fun _ E4 => S_m E4 rfl rfl ?_)))))
      clear E a E1 E2 E3 E4; intro a E
      obtain ⟨v_20, sv_20, hv_20⟩ := h0.subv ((x1).toNat) ((l0).length) (by omega) (by omega)
      replace hv_20 : RdI M1 v_20 (((l0).take ((l0).length)).drop ((x1).toNat)) := hv_20
      refine S_v E rfl (Je E rfl rfl rfl T22 sv_20 (by omega) (by omega)) rfl fun _ E1 => S_a E1 rfl rfl ?_
      clear E a E1; intro a E
      refine Qc (T_n (Qe ?_))
      exact Qg E Tryz.results160 rfl ⟨_, rfl, M1, (Hp.le.refl _), (RdS.eqL hv_20 (by (clear E S; unfold QS; first | (apply List.eq_nil_of_length_eq_zero; simp; omega) | exact WH (by omega) (by omega)))), S⟩
     ·refine Qh (T_n (Qb (Qa (S_m E rfl rfl fun _ E1 => S_m E1 rfl rfl fun _ E2 => S_m E2 rfl rfl ?_))))
      clear E a E1 E2; intro a E
      obtain ⟨v_21, sv_21, hv_21⟩ := h0.subv ((x1).toNat) ((x2).toNat) (by omega) (by omega)
      replace hv_21 : RdI M1 v_21 (((l0).take ((x2).toNat)).drop ((x1).toNat)) := hv_21
      refine S_v E rfl (Je E rfl rfl rfl T22 sv_21 (by omega) (by omega)) rfl fun _ E1 => S_a E1 rfl rfl ?_
      clear E a E1; intro a E
      refine Qc (T_n (Qe ?_))
      exact Qg E Tryz.results160 rfl ⟨_, rfl, M1, (Hp.le.refl _), (RdS.eqL hv_21 (by (clear E S; unfold QS; first | (apply List.eq_nil_of_length_eq_zero; simp; omega) | exact WH (by omega) (by omega)))), S⟩
theorem impl_Slice {M : Hp} {v0 : Value} {l0 : List Int} (h0 : RdI M v0 l0)(hb : l0.length ≤ 1000000000000){x1 x2 : Int} (g1 : -9223372036854775808 ≤ x1 ∧ x1 ≤ 9223372036854775807) (g2 : -9223372036854775808 ≤ x2 ∧ x2 ≤ 9223372036854775807) :
  Pu Tryz.prog (.func (.func 65) #[] #[]) M [v0, .int .i64 x1, .int .i64 x2] (fun r M' => RdI M' r (QS l0 x1 x2)) := by
 refine Qk Tryz.func65 rfl Tryz.ntmps65 rfl Tryz.call65 ?_
 intro a w M1 H hM1 S E
 replace h0 := h0.le hM1
 have b0 := h0.bound
 have hsl := sliceL_len l0 x1 x2
 refine Qb (Qa (S_a E rfl rfl fun _ E1 => Qc (T_n (Qb (Qa (S_m E1 rfl rfl fun _ E2 => S_m E2 rfl rfl fun _ E3 => S_m E3 rfl rfl ?_))))))
 clear E a E1 E2 E3; intro a E
 refine S_x (Qr E S rfl rfl rfl (lo_Slice h0 (by omega) (by omega)) (Hp.le.refl _) ?_)
 clear E a S; rintro a v_2 w M_1 hM_1 hv_2 S E
 refine S_x (Vv (p := []) E S rfl rfl rfl (Zz hv_2 (by (first | omega | (simp; omega) | (simp; done) | (simp_all; omega) | grind))) (Hp.le.refl _) ?_)
 clear E a S; rintro a v_4 w M_3 _ hM_3 rfl S E
 replace S : St w M_3 (QR 3 v_4 (QS l0 x1 x2) :: _) := S
 refine S_a E rfl rfl ?_
 clear E a; intro a E
 refine Qc (T_n (Qe ?_))
 have S0 := S; clear S
 obtain ⟨M_5, hM_5, hz_6, S⟩ := S0.freezeI (by (omega))
 clear S0
 exact Qg E Tryz.results65 rfl ⟨_, rfl, M_5, (hM_1.trans (hM_3.trans hM_5)), hz_6, S⟩
theorem lo_Subset {M : Hp} {v0 : Value} {l0 : List Int} (h0 : RdI M v0 l0){x1 x2 : Int} (g1 : -1000000 ≤ x1 ∧ x1 ≤ 1000000) (g2 : 0 ≤ x2 ∧ x2 ≤ 18446744073709551615) (hb : l0.length ≤ 1000000000000) :
  Pu Tryz.prog (.func (.func 161) #[] #[]) M [v0, .int .i64 x1, .int .u64 x2] (fun r M' => RdI M' r (JE l0 x1 x2)) := by
 refine Qk Tryz.func161 rfl Tryz.ntmps161 rfl Tryz.call161 ?_
 intro a w M1 H hM1 S E
 replace h0 := h0.le hM1
 have b0 := h0.bound
 refine Qb (Qa (S_a E rfl rfl fun _ E1 => Qc (T_n (Qb (Qa (S_m E1 rfl rfl fun _ E2 => S_v E2 rfl (Qp E2 rfl T22 h0.len) rfl fun _ E3 => S_a E3 rfl rfl fun _ E4 => Qc (T_n (Qb (Qb (Qa (S_m E4 rfl rfl fun _ E5 => S_v E5 rfl (QG E5 rfl rfl) rfl ?_)))))))))))
 clear E a E1 E2 E3 E4 E5; intro a E
 refine Qc (T_n ?_)
 refine Qn E rfl (fun hc_1 => ?_) (fun hc_1 => ?_)
 ·refine Qb (Qa (S_m E rfl rfl fun _ E1 => S_m E1 rfl rfl fun _ E2 => S_v E2 rfl (Qq (m := (((l0).length : Nat) : Int) + x1) E2 rfl rfl (by omega) (by omega)) rfl fun _ E3 => S_a E3 rfl rfl fun _ E4 => Qc (T_n (Qb (Qa (S_m E4 rfl rfl fun _ E5 => S_v E5 rfl (QG E5 rfl rfl) rfl ?_))))))
  clear E a E1 E2 E3 E4 E5; intro a E
  refine Qc (T_n ?_)
  refine Qn E rfl (fun hc_2 => ?_) (fun hc_2 => ?_)
  ·refine Qa (S_a E rfl rfl fun _ E1 => Qc (T_n (Qb (Qb (Qa (S_m E1 rfl rfl fun _ E2 => S_m E2 rfl rfl fun _ E3 => S_v E3 rfl (JT E3 rfl rfl) rfl ?_))))))
   clear E a E1 E2 E3; intro a E
   refine Qc (T_n ?_)
   refine Qn E rfl (fun hc_3 => ?_) (fun hc_3 => ?_)
   ·refine Qb (Qa ?_)
    refine S_x (Qy (ys := []) E S rfl T22 rfl rfl rfl ?_)
    clear E a S; rintro a w v_4 E S
    refine S_a E rfl rfl ?_
    clear E a; intro a E
    refine Qc (T_n (Qe ?_))
    refine T_r ?_
    have S0 := S; clear S
    obtain ⟨M_5, hM_5, hz_6, S⟩ := S0.freezeI (by (omega))
    clear S0
    replace h0 := h0.le hM_5
    exact Qg E Tryz.results161 rfl ⟨_, rfl, M_5, hM_5, (RdS.eqL hz_6 (by (clear E S; unfold JE; first | (exfalso; omega) | (rw [List.drop_eq_nil_of_le (by split <;> omega)]; simp; done) | (apply Um (e := 0) <;> first | omega | (split <;> omega))))), S⟩
   ·refine Qh (T_n (Qb (Qb (Qa (S_m E rfl rfl fun _ E1 => S_m E1 rfl rfl fun _ E2 => S_v E2 rfl (Zf (m := (((l0).length : Nat) : Int)) E2 rfl Tryz.underlying3 Tryz.underlying54 (by (rw [Jh]; omega))) rfl fun _ E3 => S_m E3 rfl rfl fun _ E4 => S_v E4 rfl (Zf (m := 0) E4 rfl Tryz.underlying3 Tryz.underlying54 (by (rw [Jh]; omega))) rfl fun _ E5 => S_v E5 rfl (jb (m := (((l0).length : Nat) : Int) - 0) E5 rfl rfl (by (rw [Jh]; omega))) rfl ?_)))))
    clear E a E1 E2 E3 E4 E5; intro a E
    refine S_v E rfl (JT E rfl rfl) rfl ?_
    clear E a; intro a E
    refine Qc (T_n ?_)
    refine Qn E rfl (fun hc_7 => ?_) (fun hc_7 => ?_)
    ·refine Qa (S_m E rfl rfl fun _ E1 => S_m E1 rfl rfl fun _ E2 => S_v E2 rfl (Jg (m := (((l0).length - 0 : Nat) : Int)) E2 rfl rfl (by omega) (by omega)) rfl fun _ E3 => S_v E3 rfl (Zf (m := (((l0).length - 0 : Nat) : Int)) E3 rfl Tryz.underlying3 Tryz.underlying54 (by (rw [Jh]; omega))) rfl fun _ E4 => S_a E4 rfl rfl fun _ E5 => Qc (T_n (Qb (Qa (S_m E5 rfl rfl ?_)))))
     clear E a E1 E2 E3 E4 E5; intro a E
     refine S_m E rfl rfl fun _ E1 => S_m E1 rfl rfl fun _ E2 => S_m E2 rfl rfl fun _ E3 => S_v E3 rfl (Yl E3 rfl Tryz.underlying54 Tryz.underlying3 (by omega)) rfl fun _ E4 => S_v E4 rfl (Qq (m := ((0 + (l0).length - 0 : Nat) : Int)) E4 rfl rfl (by omega) (by omega)) rfl ?_
     clear E a E1 E2 E3 E4; intro a E
     obtain ⟨v_8, sv_8, hv_8⟩ := h0.subv 0 (0 + (l0).length - 0) (by omega) (by omega)
     replace hv_8 : RdI M1 v_8 (((l0).take (0 + (l0).length - 0)).drop 0) := hv_8
     refine S_v E rfl (Je E rfl rfl rfl T22 sv_8 (by omega) (by omega)) rfl fun _ E1 => S_a E1 rfl rfl ?_
     clear E a E1; intro a E
     refine Qc (T_n (Qe ?_))
     exact Qg E Tryz.results161 rfl ⟨_, rfl, M1, (Hp.le.refl _), (RdS.eqL hv_8 (by (clear E S; unfold JE; first | (exfalso; omega) | (rw [List.drop_eq_nil_of_le (by split <;> omega)]; simp; done) | (apply Um (e := 0) <;> first | omega | (split <;> omega))))), S⟩
    ·refine Qh (T_n (Qb (Qa (S_m E rfl rfl fun _ E1 => S_m E1 rfl rfl fun _ E2 => S_m E2 rfl rfl fun _ E3 => S_m E3 rfl rfl fun _ E4 => S_v E4 rfl (Yl E4 rfl Tryz.underlying54 Tryz.underlying3 (by omega)) rfl fun _ E5 => S_v E5 rfl (Qq (m := 0 + x2) E5 rfl rfl (by omega) (by omega)) rfl ?_))))
     clear E a E1 E2 E3 E4 E5; intro a E
     obtain ⟨v_9, sv_9, hv_9⟩ := h0.subv 0 ((0 + x2).toNat) (by omega) (by omega)
     replace hv_9 : RdI M1 v_9 (((l0).take ((0 + x2).toNat)).drop 0) := hv_9
     refine S_v E rfl (Je E rfl rfl rfl T22 sv_9 (by omega) (by omega)) rfl fun _ E1 => S_a E1 rfl rfl ?_
     clear E a E1; intro a E
     refine Qc (T_n (Qe ?_))
     exact Qg E Tryz.results161 rfl ⟨_, rfl, M1, (Hp.le.refl _), (RdS.eqL hv_9 (by (clear E S; unfold JE; first | (exfalso; omega) | (rw [List.drop_eq_nil_of_le (by split <;> omega)]; simp; done) | (apply Um (e := 0) <;> first | omega | (split <;> omega))))), S⟩
  ·refine Qh (T_n (Qb (Qb (Qa (S_m E rfl rfl fun _ E1 => S_m E1 rfl rfl fun _ E2 => S_v E2 rfl (JT E2 rfl rfl) rfl ?_)))))
   clear E a E1 E2; intro a E
   refine Qc (T_n ?_)
   refine Qn E rfl (fun hc_10 => ?_) (fun hc_10 => ?_)
   ·refine Qb (Qa ?_)
    refine S_x (Qy (ys := []) E S rfl T22 rfl rfl rfl ?_)
    clear E a S; rintro a w v_11 E S
    refine S_a E rfl rfl ?_
    clear E a; intro a E
    refine Qc (T_n (Qe ?_))
    refine T_r ?_
    have S0 := S; clear S
    obtain ⟨M_12, hM_12, hz_13, S⟩ := S0.freezeI (by (omega))
    clear S0
    replace h0 := h0.le hM_12
    exact Qg E Tryz.results161 rfl ⟨_, rfl, M_12, hM_12, (RdS.eqL hz_13 (by (clear E S; unfold JE; first | (exfalso; omega) | (rw [List.drop_eq_nil_of_le (by split <;> omega)]; simp; done) | (apply Um (e := 0) <;> first | omega | (split <;> omega))))), S⟩
   ·refine Qh (T_n (Qb (Qb (Qa (S_m E rfl rfl fun _ E1 => S_m E1 rfl rfl fun _ E2 => S_v E2 rfl (Zf (m := (((l0).length : Nat) : Int)) E2 rfl Tryz.underlying3 Tryz.underlying54 (by (rw [Jh]; omega))) rfl fun _ E3 => S_m E3 rfl rfl fun _ E4 => S_v E4 rfl (Zf (m := (((l0).length : Nat) : Int) + x1) E4 rfl Tryz.underlying3 Tryz.underlying54 (by (rw [Jh]; omega))) rfl fun _ E5 => S_v E5 rfl (jb (m := (((l0).length : Nat) : Int) - ((((l0).length : Nat) : Int) + x1)) E5 rfl rfl (by (rw [Jh]; omega))) rfl ?_)))))
    clear E a E1 E2 E3 E4 E5; intro a E
    refine S_v E rfl (JT E rfl rfl) rfl ?_
    clear E a; intro a E
    refine Qc (T_n ?_)
    refine Qn E rfl (fun hc_14 => ?_) (fun hc_14 => ?_)
    ·refine Qa (S_m E rfl rfl fun _ E1 => S_m E1 rfl rfl fun _ E2 => S_v E2 rfl (Jg (m := (((l0).length : Nat) : Int) - ((((l0).length : Nat) : Int) + x1)) E2 rfl rfl (by omega) (by omega)) rfl fun _ E3 => S_v E3 rfl (Zf (m := (((l0).length : Nat) : Int) - ((((l0).length : Nat) : Int) + x1)) E3 rfl Tryz.underlying3 Tryz.underlying54 (by (rw [Jh]; omega))) rfl fun _ E4 => S_a E4 rfl rfl fun _ E5 => Qc (T_n (Qb (Qa (S_m E5 rfl rfl ?_)))))
     clear E a E1 E2 E3 E4 E5; intro a E
     refine S_m E rfl rfl fun _ E1 => S_m E1 rfl rfl fun _ E2 => S_m E2 rfl rfl fun _ E3 => S_v E3 rfl (Yl E3 rfl Tryz.underlying54 Tryz.underlying3 (by omega)) rfl fun _ E4 => S_v E4 rfl (Qq (m := ((((l0).length : Nat) : Int) + x1) + ((((l0).length : Nat) : Int) - ((((l0).length : Nat) : Int) + x1))) E4 rfl rfl (by omega) (by omega)) rfl ?_
     clear E a E1 E2 E3 E4; intro a E
     obtain ⟨v_15, sv_15, hv_15⟩ := h0.subv (((((l0).length : Nat) : Int) + x1).toNat) ((((((l0).length : Nat) : Int) + x1) + ((((l0).length : Nat) : Int) - ((((l0).length : Nat) : Int) + x1))).toNat) (by omega) (by omega)
     replace hv_15 : RdI M1 v_15 (((l0).take ((((((l0).length : Nat) : Int) + x1) + ((((l0).length : Nat) : Int) - ((((l0).length : Nat) : Int) + x1))).toNat)).drop (((((l0).length : Nat) : Int) + x1).toNat)) := hv_15
     refine S_v E rfl (Je E rfl rfl rfl T22 sv_15 (by omega) (by omega)) rfl fun _ E1 => S_a E1 rfl rfl ?_
     clear E a E1; intro a E
     refine Qc (T_n (Qe ?_))
     exact Qg E Tryz.results161 rfl ⟨_, rfl, M1, (Hp.le.refl _), (RdS.eqL hv_15 (by (clear E S; unfold JE; first | (exfalso; omega) | (rw [List.drop_eq_nil_of_le (by split <;> omega)]; simp; done) | (apply Um (e := 0) <;> first | omega | (split <;> omega))))), S⟩
    ·refine Qh (T_n (Qb (Qa (S_m E rfl rfl fun _ E1 => S_m E1 rfl rfl fun _ E2 => S_m E2 rfl rfl fun _ E3 => S_m E3 rfl rfl fun _ E4 => S_v E4 rfl (Yl E4 rfl Tryz.underlying54 Tryz.underlying3 (by omega)) rfl fun _ E5 => S_v E5 rfl (Qq (m := ((((l0).length : Nat) : Int) + x1) + x2) E5 rfl rfl (by omega) (by omega)) rfl ?_))))
     clear E a E1 E2 E3 E4 E5; intro a E
     obtain ⟨v_16, sv_16, hv_16⟩ := h0.subv (((((l0).length : Nat) : Int) + x1).toNat) ((((((l0).length : Nat) : Int) + x1) + x2).toNat) (by omega) (by omega)
     replace hv_16 : RdI M1 v_16 (((l0).take ((((((l0).length : Nat) : Int) + x1) + x2).toNat)).drop (((((l0).length : Nat) : Int) + x1).toNat)) := hv_16
     refine S_v E rfl (Je E rfl rfl rfl T22 sv_16 (by omega) (by omega)) rfl fun _ E1 => S_a E1 rfl rfl ?_
     clear E a E1; intro a E
     refine Qc (T_n (Qe ?_))
     exact Qg E Tryz.results161 rfl ⟨_, rfl, M1, (Hp.le.refl _), (RdS.eqL hv_16 (by (clear E S; unfold JE; first | (exfalso; omega) | (rw [List.drop_eq_nil_of_le (by split <;> omega)]; simp; done) | (apply Um (e := 0) <;> first | omega | (split <;> omega))))), S⟩
 ·refine Qh (T_n (Qb (Qb (Qa (S_m E rfl rfl fun _ E1 => S_m E1 rfl rfl fun _ E2 => S_v E2 rfl (JT E2 rfl rfl) rfl ?_)))))
  clear E a E1 E2; intro a E
  refine Qc (T_n ?_)
  refine Qn E rfl (fun hc_17 => ?_) (fun hc_17 => ?_)
  ·refine Qb (Qa ?_)
   refine S_x (Qy (ys := []) E S rfl T22 rfl rfl rfl ?_)
   clear E a S; rintro a w v_18 E S
   refine S_a E rfl rfl ?_
   clear E a; intro a E
   refine Qc (T_n (Qe ?_))
   refine T_r ?_
   have S0 := S; clear S
   obtain ⟨M_19, hM_19, hz_20, S⟩ := S0.freezeI (by ((simp; done)))
   clear S0
   replace h0 := h0.le hM_19
   exact Qg E Tryz.results161 rfl ⟨_, rfl, M_19, hM_19, (RdS.eqL hz_20 (by (clear E S; unfold JE; first | (exfalso; omega) | (rw [List.drop_eq_nil_of_le (by split <;> omega)]; simp; done) | (apply Um (e := 0) <;> first | omega | (split <;> omega))))), S⟩
  ·refine Qh (T_n (Qb (Qb (Qa (S_m E rfl rfl fun _ E1 => S_m E1 rfl rfl fun _ E2 => S_v E2 rfl (Zf (m := (((l0).length : Nat) : Int)) E2 rfl Tryz.underlying3 Tryz.underlying54 (by (rw [Jh]; omega))) rfl fun _ E3 => S_m E3 rfl rfl fun _ E4 => S_v E4 rfl (Zf (m := x1) E4 rfl Tryz.underlying3 Tryz.underlying54 (by (rw [Jh]; omega))) rfl fun _ E5 => S_v E5 rfl (jb (m := (((l0).length : Nat) : Int) - x1) E5 rfl rfl (by (rw [Jh]; omega))) rfl ?_)))))
   clear E a E1 E2 E3 E4 E5; intro a E
   refine S_v E rfl (JT E rfl rfl) rfl ?_
   clear E a; intro a E
   refine Qc (T_n ?_)
   refine Qn E rfl (fun hc_21 => ?_) (fun hc_21 => ?_)
   ·refine Qa (S_m E rfl rfl fun _ E1 => S_m E1 rfl rfl fun _ E2 => S_v E2 rfl (Jg (m := (((l0).length : Nat) : Int) - x1) E2 rfl rfl (by omega) (by omega)) rfl fun _ E3 => S_v E3 rfl (Zf (m := (((l0).length : Nat) : Int) - x1) E3 rfl Tryz.underlying3 Tryz.underlying54 (by (rw [Jh]; omega))) rfl fun _ E4 => S_a E4 rfl rfl fun _ E5 => Qc (T_n (Qb (Qa (S_m E5 rfl rfl ?_)))))
    clear E a E1 E2 E3 E4 E5; intro a E
    refine S_m E rfl rfl fun _ E1 => S_m E1 rfl rfl fun _ E2 => S_m E2 rfl rfl fun _ E3 => S_v E3 rfl (Yl E3 rfl Tryz.underlying54 Tryz.underlying3 (by omega)) rfl fun _ E4 => S_v E4 rfl (Qq (m := x1 + ((((l0).length : Nat) : Int) - x1)) E4 rfl rfl (by omega) (by omega)) rfl ?_
    clear E a E1 E2 E3 E4; intro a E
    obtain ⟨v_22, sv_22, hv_22⟩ := h0.subv ((x1).toNat) ((x1 + ((((l0).length : Nat) : Int) - x1)).toNat) (by omega) (by omega)
    replace hv_22 : RdI M1 v_22 (((l0).take ((x1 + ((((l0).length : Nat) : Int) - x1)).toNat)).drop ((x1).toNat)) := hv_22
    refine S_v E rfl (Je E rfl rfl rfl T22 sv_22 (by omega) (by omega)) rfl fun _ E1 => S_a E1 rfl rfl ?_
    clear E a E1; intro a E
    refine Qc (T_n (Qe ?_))
    exact Qg E Tryz.results161 rfl ⟨_, rfl, M1, (Hp.le.refl _), (RdS.eqL hv_22 (by (clear E S; unfold JE; first | (exfalso; omega) | (rw [List.drop_eq_nil_of_le (by split <;> omega)]; simp; done) | (apply Um (e := 0) <;> first | omega | (split <;> omega))))), S⟩
   ·refine Qh (T_n (Qb (Qa (S_m E rfl rfl fun _ E1 => S_m E1 rfl rfl fun _ E2 => S_m E2 rfl rfl fun _ E3 => S_m E3 rfl rfl fun _ E4 => S_v E4 rfl (Yl E4 rfl Tryz.underlying54 Tryz.underlying3 (by omega)) rfl fun _ E5 => S_v E5 rfl (Qq (m := x1 + x2) E5 rfl rfl (by omega) (by omega)) rfl ?_))))
    clear E a E1 E2 E3 E4 E5; intro a E
    obtain ⟨v_23, sv_23, hv_23⟩ := h0.subv ((x1).toNat) ((x1 + x2).toNat) (by omega) (by omega)
    replace hv_23 : RdI M1 v_23 (((l0).take ((x1 + x2).toNat)).drop ((x1).toNat)) := hv_23
    refine S_v E rfl (Je E rfl rfl rfl T22 sv_23 (by omega) (by omega)) rfl fun _ E1 => S_a E1 rfl rfl ?_
    clear E a E1; intro a E
    refine Qc (T_n (Qe ?_))
    exact Qg E Tryz.results161 rfl ⟨_, rfl, M1, (Hp.le.refl _), (RdS.eqL hv_23 (by (clear E S; unfold JE; first | (exfalso; omega) | (rw [List.drop_eq_nil_of_le (by split <;> omega)]; simp; done) | (apply Um (e := 0) <;> first | omega | (split <;> omega))))), S⟩
theorem impl_Subset {M : Hp} {v0 : Value} {l0 : List Int} (h0 : RdI M v0 l0){x1 x2 : Int} (g1 : -1000000 ≤ x1 ∧ x1 ≤ 1000000) (g2 : 0 ≤ x2 ∧ x2 ≤ 18446744073709551615) (hb : l0.length ≤ 1000000000000) :
  Pu Tryz.prog (.func (.func 66) #[] #[]) M [v0, .int .i64 x1, .int .u64 x2] (fun r M' => RdI M' r (JE l0 x1 x2)) := by
 refine Qk Tryz.func66 rfl Tryz.ntmps66 rfl Tryz.call66 ?_
 intro a w M1 H hM1 S E
 replace h0 := h0.le hM1
 have b0 := h0.bound
 have hsl := vr l0 x1 x2
 refine Qb (Qa (S_a E rfl rfl fun _ E1 => Qc (T_n (Qb (Qa (S_m E1 rfl rfl fun _ E2 => S_m E2 rfl rfl fun _ E3 => S_m E3 rfl rfl ?_))))))
 clear E a E1 E2 E3; intro a E
 refine S_x (Qr E S rfl rfl rfl (lo_Subset h0 (by omega) (by omega) (by (omega))) (Hp.le.refl _) ?_)
 clear E a S; rintro a v_2 w M_1 hM_1 hv_2 S E
 refine S_x (Vv (p := []) E S rfl rfl rfl (Zz hv_2 (by (first | omega | (simp; omega) | (simp; done) | (simp_all; omega) | grind))) (Hp.le.refl _) ?_)
 clear E a S; rintro a v_4 w M_3 _ hM_3 rfl S E
 replace S : St w M_3 (QR 3 v_4 (JE l0 x1 x2) :: _) := S
 refine S_a E rfl rfl ?_
 clear E a; intro a E
 refine Qc (T_n (Qe ?_))
 have S0 := S; clear S
 obtain ⟨M_5, hM_5, hz_6, S⟩ := S0.freezeI (by (omega))
 clear S0
 exact Qg E Tryz.results66 rfl ⟨_, rfl, M_5, (hM_1.trans (hM_3.trans hM_5)), hz_6, S⟩
theorem zB {M : Hp} {v0 : Value} {l0 : List Int} (h0 : RdI M v0 l0){x1 x2 x3 : Int}  (hb : l0.length ≤ 1000000000000) :
  Pu Tryz.prog (.func (.func 162) #[] #[]) M [v0, .int .i64 x1, .int .i64 x2, .int .i64 x3] (fun r M' => RdI M' r (JQ (Zn x1 x2) (JF x1) x3 l0)) := by
 refine Qk Tryz.func162 rfl Tryz.ntmps162 rfl Tryz.call162 ?_
 intro a w M1 H hM1 S E
 replace h0 := h0.le hM1
 have b0 := h0.bound
 refine Qb (Qa (S_a E rfl rfl fun _ E1 => Qc (T_n (Qb (Qa (S_m E1 rfl rfl fun _ E2 => S_v E2 rfl (Qp E2 rfl T22 h0.len) rfl ?_))))))
 clear E a E1 E2; intro a E
 refine S_x (Yk (k := (l0).length) E S rfl rfl rfl T22 (by omega) (by omega) (by omega) (by omega) ?_)
 clear E a S; rintro a w v_1 E S
 replace S := S.madeI
 refine S_a E rfl rfl fun _ E1 => Qc (T_n (Qb (Qa (S_m E1 rfl rfl fun _ E2 => S_m E2 rfl rfl ?_))))
 clear E a E1 E2; intro a E
 refine S_x (YO (xs := (List.replicate ((l0).length) (0 : Int))) (ys := l0) E S rfl rfl rfl T22 h0 ?_)
 clear E a S; rintro a w E S
 replace S := S.re1 (l' := l0) (by (simp))
 refine Qc (T_n (Qb (Qb (Qa (S_m E rfl rfl fun _ E1 => S_v E1 rfl (Qp E1 rfl T22 S.lenC) rfl fun _ E2 => S_m E2 rfl rfl ?_)))))
 clear E a E1 E2; intro a E
 refine Qc (T_n (Qi ?_))
 replace S := S.re1 (l' := JQ (Zn x1 x2) (JF x1) x3 (l0.take 0) ++ l0.drop 0) (by first | rfl | (simp [JQ, Ya]; done) | exact yv (by omega) (by assumption) (by assumption) (by assumption) | exact rp_no (by omega) (by assumption) (by first | (left; first | assumption | omega) | (right; first | assumption | omega)) | exact zo (by assumption) (by assumption) (by assumption) | exact jP (by assumption) (by first | (left; first | assumption | omega) | (right; first | assumption | omega)))
 refine Qx (γ := Nat) (fun (k : Nat) a w => ∃ (M_2 : Hp), Hp.le M1 M_2 ∧ St w M_2 (QR 3 v_1 (JQ (Zn x1 x2) (JF x1) x3 (l0.take k) ++ l0.drop k) :: H) ∧ Env a 40 [] [(1, .int .i64 x1), (2, .int .i64 x2), (3, .int .i64 (Ya (JF x1) x3 (l0.take k))), (9, v_1), (18, .int .i64 (((l0).length : Nat) : Int)), (19, .int .i64 ((k : Nat) : Int))] ∧ (k ≤ (l0).length)) (fun k => ((l0).length) - k) 0 ⟨M1, Hp.le.refl _, S, E.keep ⟨rfl, rfl, Za (i := x3) rfl (by (simp [Ya])), rfl, rfl, rfl, trivial⟩, by ((try clear S); (try clear E); first | assumption | omega | rfl | (simp; done) | (simp_all; done) | (simp [List.take_add_one, *]; done) | grind [List.take_add_one])⟩ ?_
 try clear E
 try clear S
 try clear a
 try clear w
 rintro k a w ⟨M_2, hM_2, S, E, hL0_0⟩
 have hms := Zj (Zn x1 x2) (JF x1) (l0.take k) x3; simp only [List.length_take] at hms
 refine Qb (Qa (S_v E rfl (QG E rfl rfl) rfl ?_))
 clear E a; intro a E
 refine Qc (T_n (Qb ?_))
 refine Qn E rfl (fun hc_3 => ?_) (fun hc_3 => ?_)
 ·refine Qh (T_n (Qb (Qi (Qb (Qa (S_m E rfl rfl fun _ E1 => S_a E1 rfl rfl fun _ E2 => Qc (T_n (Qb (Qa (S_m E2 rfl rfl fun _ E3 => S_m E3 rfl rfl ?_))))))))))
  clear E a E1 E2 E3; intro a E
  obtain ⟨p_4, hp_4⟩ := S.ptrC (k := k) (by first | omega | (simp; done) | (simp; omega) | (simp [Zj]; omega))
  refine S_v E rfl (QB E rfl rfl T22 hp_4 rfl) rfl ?_
  clear E a; intro a E
  obtain ⟨x_5, hx_5⟩ : ∃ x, (JQ (Zn x1 x2) (JF x1) x3 (l0.take k) ++ l0.drop k)[k]? = some x := ⟨_, List.getElem?_eq_getElem (by first | omega | (simp; done) | (simp; omega) | (simp [Zj]; omega))⟩
  refine S_v E rfl (VK E rfl (Tryz.isAgg3 _) (S.cellI hp_4 hx_5)) rfl fun _ E1 => S_m E1 rfl rfl fun _ E2 => S_v E2 rfl (Qv E2 rfl rfl) rfl fun _ E3 => S_m E3 rfl rfl ?_
  clear E a E1 E2 E3; intro a E
  refine QK (decide (x_5 = x1)) (fun hc_6 => ?_) (fun hc_6 => ?_)
  ·replace E := E.val (t := 27) rfl hc_6
   replace E := E.val (t := 28) rfl hc_6
   replace hc_6 := of_decide_eq_true hc_6
   refine Qf E rfl rfl ?_
   refine S_m E rfl rfl ?_
   clear E a; intro a E
   refine Qf E rfl rfl ?_
   refine S_v E rfl (Yv E rfl rfl) rfl fun _ E1 => S_v E1 rfl (QZ E1 rfl rfl) rfl ?_
   clear E a E1; intro a E
   refine Qc (T_n ?_)
   refine Qn E rfl (fun hc_7 => ?_) (fun hc_7 => ?_)
   ·refine Qb (Qa (S_m E rfl rfl fun _ E1 => S_m E1 rfl rfl fun _ E2 => S_m E2 rfl rfl fun _ E3 => S_v E3 rfl (QB E3 rfl rfl T22 hp_4 rfl) rfl ?_))
    clear E a E1 E2 E3; intro a E
    refine Zr (Vs E S rfl rfl (Tryz.sizeOf3 _) hp_4 ?_)
    clear E a S; rintro a w E S
    refine Qc (T_n (Qa (S_m E rfl rfl fun _ E1 => S_v E1 rfl (R_sub E1 rfl rfl) rfl fun _ E2 => S_a E2 rfl rfl fun _ E3 => Qc (B_n (T_n (Qa (S_v E3 rfl (Qq (m := ((k + 1 : Nat) : Int)) E3 rfl rfl (by omega) (by omega)) rfl fun _ E4 => S_m E4 rfl rfl ?_)))))))
    clear E a E1 E2 E3 E4; intro a E
    refine Qc (T_n ?_)
    replace S := S.re1 (l' := JQ (Zn x1 x2) (JF x1) x3 (l0.take (k + 1)) ++ l0.drop (k + 1)) (by first | rfl | (simp [JQ, Ya]; done) | exact yv (by omega) (by assumption) (by assumption) (by assumption) | exact rp_no (by omega) (by assumption) (by first | (left; first | assumption | omega) | (right; first | assumption | omega)) | exact zo (by assumption) (by assumption) (by assumption) | exact jP (by assumption) (by first | (left; first | assumption | omega) | (right; first | assumption | omega)))
    exact ⟨k + 1, ⟨M_2, hM_2, S, E.keep ⟨rfl, rfl, Za (i := IntKind.i64.wrap (Ya (JF x1) x3 (l0.take k) - 1)) rfl (by (first | rfl | (simp [Ya]; done) | exact WQ (by assumption) (by assumption) (by assumption) | exact qg (by assumption) (by first | (left; first | assumption | omega) | (right; first | assumption | omega)) | exact WQ (UV (by omega) (by assumption)) (by assumption) (by assumption) | exact qg (UV (by omega) (by assumption)) (by first | (left; first | assumption | omega) | (right; first | assumption | omega)))), rfl, rfl, rfl, trivial⟩, by ((try clear S); (try clear E); first | assumption | omega | rfl | (simp; done) | (simp_all; done) | (simp [List.take_add_one, *]; done) | grind [List.take_add_one])⟩, by omega⟩
   ·refine Qh (B_n (T_n (Qa (S_v E rfl (Qq (m := ((k + 1 : Nat) : Int)) E rfl rfl (by omega) (by omega)) rfl fun _ E1 => S_m E1 rfl rfl ?_))))
    clear E a E1; intro a E
    refine Qc (T_n ?_)
    replace S := S.re1 (l' := JQ (Zn x1 x2) (JF x1) x3 (l0.take (k + 1)) ++ l0.drop (k + 1)) (by first | rfl | (simp [JQ, Ya]; done) | exact yv (by omega) (by assumption) (by assumption) (by assumption) | exact rp_no (by omega) (by assumption) (by first | (left; first | assumption | omega) | (right; first | assumption | omega)) | exact zo (by assumption) (by assumption) (by assumption) | exact jP (by assumption) (by first | (left; first | assumption | omega) | (right; first | assumption | omega)))
    exact ⟨k + 1, ⟨M_2, hM_2, S, E.keep ⟨rfl, rfl, Za (i := Ya (JF x1) x3 (l0.take k)) rfl (by (first | rfl | (simp [Ya]; done) | exact WQ (by assumption) (by assumption) (by assumption) | exact qg (by assumption) (by first | (left; first | assumption | omega) | (right; first | assumption | omega)) | exact WQ (UV (by omega) (by assumption)) (by assumption) (by assumption) | exact qg (UV (by omega) (by assumption)) (by first | (left; first | assumption | omega) | (right; first | assumption | omega)))), rfl, rfl, rfl, trivial⟩, by ((try clear S); (try clear E); first | assumption | omega | rfl | (simp; done) | (simp_all; done) | (simp [List.take_add_one, *]; done) | grind [List.take_add_one])⟩, by omega⟩
  ·replace E := E.val (t := 27) rfl hc_6
   replace E := E.val (t := 28) rfl hc_6
   replace hc_6 := of_decide_eq_false hc_6
   refine Qd E rfl rfl rfl rfl fun a E => ?_
   refine Qd E rfl rfl rfl rfl fun a E => ?_
   refine S_v E rfl (QQ E rfl rfl) rfl ?_
   clear E a; intro a E
   refine Qc (T_n ?_)
   refine Ja E rfl rfl ?_
   refine Qh (B_n (T_n (Qa (S_v E rfl (Qq (m := ((k + 1 : Nat) : Int)) E rfl rfl (by omega) (by omega)) rfl fun _ E1 => S_m E1 rfl rfl ?_))))
   clear E a E1; intro a E
   refine Qc (T_n ?_)
   replace S := S.re1 (l' := JQ (Zn x1 x2) (JF x1) x3 (l0.take (k + 1)) ++ l0.drop (k + 1)) (by first | rfl | (simp [JQ, Ya]; done) | exact yv (by omega) (by assumption) (by assumption) (by assumption) | exact rp_no (by omega) (by assumption) (by first | (left; first | assumption | omega) | (right; first | assumption | omega)) | exact zo (by assumption) (by assumption) (by assumption) | exact jP (by assumption) (by first | (left; first | assumption | omega) | (right; first | assumption | omega)))
   exact ⟨k + 1, ⟨M_2, hM_2, S, E.keep ⟨rfl, rfl, Za (i := Ya (JF x1) x3 (l0.take k)) rfl (by (first | rfl | (simp [Ya]; done) | exact WQ (by assumption) (by assumption) (by assumption) | exact qg (by assumption) (by first | (left; first | assumption | omega) | (right; first | assumption | omega)) | exact WQ (UV (by omega) (by assumption)) (by assumption) (by assumption) | exact qg (UV (by omega) (by assumption)) (by first | (left; first | assumption | omega) | (right; first | assumption | omega)))), rfl, rfl, rfl, trivial⟩, by ((try clear S); (try clear E); first | assumption | omega | rfl | (simp; done) | (simp_all; done) | (simp [List.take_add_one, *]; done) | grind [List.take_add_one])⟩, by omega⟩
 ·refine Qt (T_x (T_x (B_x (T_n (Qb (Qa (S_m E rfl rfl fun _ E1 => S_a E1 rfl rfl ?_)))))))
  clear E a E1; intro a E
  refine Qc (T_n (Qe ?_))
  have S0 := S; clear S
  obtain ⟨M_8, hM_8, hz_9, S⟩ := S0.freezeI (by (first | omega | (simp [Zj]; omega)))
  clear S0
  exact Qg E Tryz.results162 rfl ⟨_, rfl, M_8, (hM_2.trans hM_8), (RdS.eqL hz_9 (by (rw [List.drop_eq_nil_of_le (by omega), List.take_of_length_le (by omega), List.append_nil]))), S⟩
theorem yU {M : Hp} {v0 : Value} {l0 : List Int} (h0 : RdI M v0 l0){x1 x2 x3 : Int}  (hb : l0.length ≤ 1000000000000) :
  Pu Tryz.prog (.func (.func 67) #[] #[]) M [v0, .int .i64 x1, .int .i64 x2, .int .i64 x3] (fun r M' => RdI M' r (JQ (Zn x1 x2) (JF x1) x3 l0)) := by
 refine Qk Tryz.func67 rfl Tryz.ntmps67 rfl Tryz.call67 ?_
 intro a w M1 H hM1 S E
 replace h0 := h0.le hM1
 have b0 := h0.bound
 have hms0 := Zj (Zn x1 x2) (JF x1) l0 x3
 refine Qb (Qa (S_a E rfl rfl fun _ E1 => Qc (T_n (Qb (Qa (S_m E1 rfl rfl fun _ E2 => S_m E2 rfl rfl fun _ E3 => S_m E3 rfl rfl fun _ E4 => S_m E4 rfl rfl ?_))))))
 clear E a E1 E2 E3 E4; intro a E
 refine S_x (Qr E S rfl rfl rfl (zB h0 (by (omega))) (Hp.le.refl _) ?_)
 clear E a S; rintro a v_2 w M_1 hM_1 hv_2 S E
 refine S_a E rfl rfl ?_
 clear E a; intro a E
 refine Qc (T_n (Qe ?_))
 exact Qg E Tryz.results67 rfl ⟨_, rfl, M_1, hM_1, hv_2, S⟩
theorem jw {M : Hp} {v0 : Value} {l0 : List Int} (h0 : RdI M v0 l0){x1 x2 : Int}  (hb : l0.length ≤ 1000000000000) :
  Pu Tryz.prog (.func (.func 163) #[] #[]) M [v0, .int .i64 x1, .int .i64 x2] (fun r M' => RdI M' r (JQ (Zn x1 x2) (JF x1) (-1) l0)) := by
 refine Qk Tryz.func163 rfl Tryz.ntmps163 rfl Tryz.call163 ?_
 intro a w M1 H hM1 S E
 replace h0 := h0.le hM1
 have b0 := h0.bound
 have hms0 := Zj (Zn x1 x2) (JF x1) l0 (-1)
 refine Qb (Qa (S_a E rfl rfl fun _ E1 => Qc (T_n (Qb (Qa (S_m E1 rfl rfl fun _ E2 => S_m E2 rfl rfl fun _ E3 => S_m E3 rfl rfl ?_))))))
 clear E a E1 E2 E3; intro a E
 refine S_x (Qr E S rfl rfl rfl (zB h0 (by (omega))) (Hp.le.refl _) ?_)
 clear E a S; rintro a v_2 w M_1 hM_1 hv_2 S E
 refine S_a E rfl rfl ?_
 clear E a; intro a E
 refine Qc (T_n (Qe ?_))
 exact Qg E Tryz.results163 rfl ⟨_, rfl, M_1, hM_1, hv_2, S⟩
theorem qD {M : Hp} {v0 : Value} {l0 : List Int} (h0 : RdI M v0 l0){x1 x2 : Int}  (hb : l0.length ≤ 1000000000000) :
  Pu Tryz.prog (.func (.func 68) #[] #[]) M [v0, .int .i64 x1, .int .i64 x2] (fun r M' => RdI M' r (JQ (Zn x1 x2) (JF x1) (-1) l0)) := by
 refine Qk Tryz.func68 rfl Tryz.ntmps68 rfl Tryz.call68 ?_
 intro a w M1 H hM1 S E
 replace h0 := h0.le hM1
 have b0 := h0.bound
 have hms0 := Zj (Zn x1 x2) (JF x1) l0 (-1)
 refine Qb (Qa (S_a E rfl rfl fun _ E1 => Qc (T_n (Qb (Qa (S_m E1 rfl rfl fun _ E2 => S_m E2 rfl rfl fun _ E3 => S_m E3 rfl rfl ?_))))))
 clear E a E1 E2 E3; intro a E
 refine S_x (Qr E S rfl rfl rfl (jw h0 (by (omega))) (Hp.le.refl _) ?_)
 clear E a S; rintro a v_2 w M_1 hM_1 hv_2 S E
 refine S_a E rfl rfl ?_
 clear E a; intro a E
 refine Qc (T_n (Qe ?_))
 exact Qg E Tryz.results68 rfl ⟨_, rfl, M_1, hM_1, hv_2, S⟩
theorem lo_Compact {M : Hp} {v0 : Value} {l0 : List Int} (h0 : RdI M v0 l0) (hb : l0.length ≤ 1000000000000) :
  Pu Tryz.prog (.func (.func 241) #[] #[]) M [v0] (fun r M' => RdI M' r ((l0).filter (fun x => decide (x ≠ 0)))) := by
 refine Qk Tryz.func241 rfl Tryz.ntmps241 rfl Tryz.call241 ?_
 intro a w M1 H hM1 S E
 replace h0 := h0.le hM1
 have b0 := h0.bound
 refine Qb (Qa (S_a E rfl rfl fun _ E1 => Qc (T_n (Qb (Qa (S_a E1 rfl rfl fun _ E2 => Qc (T_n (Qb (Qa (S_m E2 rfl rfl fun _ E3 => S_v E3 rfl (Qp E3 rfl T22 h0.len) rfl ?_))))))))))
 clear E a E1 E2 E3; intro a E
 refine S_x (Jf (k := (l0).length) E S rfl rfl rfl T22 rfl (by omega) (by omega) (by omega) ?_)
 clear E a S; rintro a w v_1 E S
 replace S := S.made0
 refine S_a E rfl rfl fun _ E1 => Qc (T_n (Qb (Qb (Qa (S_m E1 rfl rfl fun _ E2 => S_v E2 rfl (Qp E2 rfl T22 h0.len) rfl fun _ E3 => S_m E3 rfl rfl ?_)))))
 clear E a E1 E2 E3; intro a E
 refine Qc (T_n (Qi ?_))
 replace S := S.re1 (l' := (l0.take 0).filter (fun x => decide (x ≠ 0))) (by ((simp; done)))
 refine Qx (γ := Nat) (fun (k : Nat) a w => ∃ (M_2 : Hp) (u4 : Value), Hp.le M1 M_2 ∧ St w M_2 (QR 3 u4 ((l0.take k).filter (fun x => decide (x ≠ 0))) :: H) ∧ Env a 29 [] [(0, v0), (3, .int .i64 0), (4, u4), (10, .int .i64 (((l0).length : Nat) : Int)), (11, .int .i64 ((k : Nat) : Int))] ∧ (k ≤ (l0).length)) (fun k => ((l0).length) - k) 0 ⟨M1, _, Hp.le.refl _, S, E.keep ⟨rfl, rfl, rfl, rfl, rfl, trivial⟩, by (omega)⟩ ?_
 try clear E
 try clear S
 try clear a
 try clear w
 rintro k a w ⟨M_2, u4, hM_2, S, E, hL0_0⟩
 replace h0 := h0.le hM_2
 have wl := List.length_filter_le (fun x => decide (x ≠ 0)) (l0.take k)
 refine Qb (Qa (S_v E rfl (QG E rfl rfl) rfl ?_))
 clear E a; intro a E
 refine Qc (T_n (Qb ?_))
 refine Qn E rfl (fun hc_3 => ?_) (fun hc_3 => ?_)
 ·refine Qh (T_n (Qb (Qi (Qb (Qa (S_m E rfl rfl fun _ E1 => S_a E1 rfl rfl fun _ E2 => Qc (T_n (Qb (Qa (S_m E2 rfl rfl fun _ E3 => S_m E3 rfl rfl ?_))))))))))
  clear E a E1 E2 E3; intro a E
  obtain ⟨x_4, hx_4⟩ : ∃ x, (l0)[k]? = some x := ⟨_, List.getElem?_eq_getElem (by omega)⟩
  obtain ⟨p_5, hp_5, qp_5⟩ := h0.at hx_4
  refine S_v E rfl (QB E rfl rfl T22 hp_5 rfl) rfl fun _ E1 => S_v E1 rfl (Qj E1 rfl Tryz.isAgg3 S.imm qp_5) rfl fun _ E2 => S_m E2 rfl rfl fun _ E3 => S_v E3 rfl (Yv E3 rfl rfl) rfl ?_
  clear E a E1 E2 E3; intro a E
  refine Qc (T_n ?_)
  refine Qn E rfl (fun hc_6 => ?_) (fun hc_6 => ?_)
  ·refine Qa (S_m E rfl rfl fun _ E1 => S_m E1 rfl rfl fun _ E2 => S_m E2 rfl rfl ?_)
   clear E a E1 E2; intro a E
   obtain ⟨p_7, hp_7, qp_7⟩ := h0.at hx_4
   refine S_v E rfl (QB E rfl rfl T22 hp_7 rfl) rfl fun _ E1 => S_v E1 rfl (Qj E1 rfl Tryz.isAgg3 S.imm qp_7) rfl ?_
   clear E a E1; intro a E
   refine S_x (Qy (ys := [x_4]) E S rfl T22 rfl rfl rfl ?_)
   clear E a S; rintro a w v_8 E S
   replace S := S.front1
   replace S := S.front1
   refine S_x (QH (xs := (l0.take k).filter (fun x => decide (x ≠ 0))) (ys := [x_4]) E S rfl rfl rfl T22 (by (simp at wl ⊢; omega)) ?_)
   clear E a S; rintro a w v_9 E S
   refine S_a E rfl rfl fun _ E1 => Qc (B_n (T_n (Qa (S_v E1 rfl (Qq (m := ((k + 1 : Nat) : Int)) E1 rfl rfl (by omega) (by omega)) rfl fun _ E2 => S_m E2 rfl rfl ?_))))
   clear E a E1 E2; intro a E
   refine Qc (T_n ?_)
   replace S := S.re1 (l' := (l0.take (k + 1)).filter (fun x => decide (x ≠ 0))) (by ((rw [Zh (by assumption)]; first | (simp [*]; done) | (simp_all; done))))
   exact ⟨k + 1, ⟨M_2, _, hM_2, S, E.keep ⟨rfl, rfl, rfl, rfl, rfl, trivial⟩, by (omega)⟩, by omega⟩
  ·refine Qh (B_n (T_n (Qa (S_v E rfl (Qq (m := ((k + 1 : Nat) : Int)) E rfl rfl (by omega) (by omega)) rfl fun _ E1 => S_m E1 rfl rfl ?_))))
   clear E a E1; intro a E
   refine Qc (T_n ?_)
   replace S := S.re1 (l' := (l0.take (k + 1)).filter (fun x => decide (x ≠ 0))) (by ((rw [Zh (by assumption)]; first | (simp [*]; done) | (simp_all; done))))
   exact ⟨k + 1, ⟨M_2, _, hM_2, S, E.keep ⟨rfl, rfl, rfl, rfl, rfl, trivial⟩, by (omega)⟩, by omega⟩
 ·refine Qt (T_x (T_x (B_x (T_n (Qb (Qa (S_m E rfl rfl fun _ E1 => S_a E1 rfl rfl ?_)))))))
  clear E a E1; intro a E
  refine Qc (T_n (Qe ?_))
  have S0 := S; clear S
  obtain ⟨M_10, hM_10, hz_11, S⟩ := S0.freezeI (by (have wl := List.length_filter_le (fun x => decide (x ≠ 0)) (l0.take k); simp at wl ⊢; omega))
  clear S0
  exact Qg E Tryz.results241 rfl ⟨_, rfl, M_10, (hM_2.trans hM_10), (RdS.eqL hz_11 (by (rw [List.take_of_length_le (by omega)]))), S⟩
theorem yX {M : Hp} {v0 : Value} {l0 : List Int} (h0 : RdI M v0 l0)(hb : l0.length ≤ 1000000000000) :
  Pu Tryz.prog (.func (.func 164) #[] #[]) M [v0] (fun r M' => RdI M' r ((l0).filter (fun x => decide (x ≠ 0)))) := by
 refine Qk Tryz.func164 rfl Tryz.ntmps164 rfl Tryz.call164 ?_
 intro a w M1 H hM1 S E
 replace h0 := h0.le hM1
 have b0 := h0.bound
 refine Qb (Qa (S_a E rfl rfl fun _ E1 => Qc (T_n (Qb (Qa (S_m E1 rfl rfl ?_))))))
 clear E a E1; intro a E
 refine S_x (Qr E S rfl rfl rfl (lo_Compact h0 (by (omega))) (Hp.le.refl _) ?_)
 clear E a S; rintro a v_2 w M_1 hM_1 hv_2 S E
 refine S_a E rfl rfl ?_
 clear E a; intro a E
 refine Qc (T_n (Qe ?_))
 exact Qg E Tryz.results164 rfl ⟨_, rfl, M_1, hM_1, hv_2, S⟩
theorem lo_Splice {M : Hp} {v0 v2 : Value} {l0 l2 : List Int} (h0 : RdI M v0 l0) (h2 : RdI M v2 l2){x1 : Int} (g1 : -9223372036854775808 ≤ x1 ∧ x1 ≤ 9223372036854775807)(hb : l0.length + l2.length ≤ 1000000000000) :
  Pu Tryz.prog (.func (.func 242) #[] #[]) M [v0, .int .i64 x1, v2] (fun r M' => RdI M' r (Yh l0 x1 l2)) := by
 refine Qk Tryz.func242 rfl Tryz.ntmps242 rfl Tryz.call242 ?_
 intro a w M1 H hM1 S E
 replace h0 := h0.le hM1
 replace h2 := h2.le hM1
 have b0 := h0.bound
 have b2 := h2.bound
 refine Qb (Qa (S_a E rfl rfl fun _ E1 => Qc (T_n (Qb (Qa (S_m E1 rfl rfl fun _ E2 => S_v E2 rfl (Qp E2 rfl T22 h0.len) rfl fun _ E3 => S_a E3 rfl rfl fun _ E4 => Qc (T_n (Qb (Qa (S_m E4 rfl rfl fun _ E5 => S_v E5 rfl (Qp E5 rfl T22 h2.len) rfl ?_))))))))))
 clear E a E1 E2 E3 E4 E5; intro a E
 refine S_a E rfl rfl fun _ E1 => Qc (T_n (Qb (Qa (S_m E1 rfl rfl fun _ E2 => S_m E2 rfl rfl fun _ E3 => S_v E3 rfl (Qq (m := (((l0).length + (l2).length : Nat) : Int)) E3 rfl rfl (by omega) (by omega)) rfl ?_))))
 clear E a E1 E2 E3; intro a E
 refine S_x (Jf (k := (l0).length + (l2).length) E S rfl rfl rfl T22 rfl (by omega) (by omega) (by omega) ?_)
 clear E a S; rintro a w v_1 E S
 replace S := S.made0
 refine S_a E rfl rfl fun _ E1 => Qc (T_n (Qb (Qi (Qb (Qa (S_m E1 rfl rfl fun _ E2 => S_v E2 rfl (Qv E2 rfl rfl) rfl fun _ E3 => S_a E3 rfl rfl ?_))))))
 clear E a E1 E2 E3; intro a E
 refine Qc (T_n ?_)
 refine Qn E rfl (fun hc_2 => ?_) (fun hc_2 => ?_)
 ·refine Qb (Qa (S_m E rfl rfl fun _ E1 => S_m E1 rfl rfl ?_))
  clear E a E1; intro a E
  refine S_x (QJ (xs := ([] : List Int)) E S rfl rfl rfl T22 h0 (by (simp; omega)) ?_)
  clear E a S; rintro a w v_3 E S
  refine S_a E rfl rfl ?_
  clear E a; intro a E
  refine Qc (T_n (Qe (B_r ?_)))
  refine T_r ?_
  have S0 := S; clear S
  obtain ⟨M_4, hM_4, hz_5, S⟩ := S0.freezeI (by ((simp; omega)))
  clear S0
  replace h0 := h0.le hM_4
  replace h2 := h2.le hM_4
  exact Qg E Tryz.results242 rfl ⟨_, rfl, M_4, hM_4, (RdS.eqL hz_5 (by unfold Yh; simp only [List.nil_append]; first | (have e := List.eq_nil_of_length_eq_zero (l := l2) (by omega); subst e; simp; done) | (rw [show min (if x1 < 0 then (x1 + ↑l0.length).toNat else x1.toNat) l0.length = l0.length by split <;> omega]; simp; done) | (rw [show min (if x1 < 0 then (x1 + ↑l0.length).toNat else x1.toNat) l0.length = 0 by split <;> omega]; simp; done) | (rw [show min (if x1 < 0 then (x1 + ↑l0.length).toNat else x1.toNat) l0.length = x1.toNat by split <;> omega]; done) | (rw [show min (if x1 < 0 then (x1 + ↑l0.length).toNat else x1.toNat) l0.length = (↑l0.length + x1).toNat by split <;> omega]; done))), S⟩
 ·refine Qb (Qa (S_m E rfl rfl fun _ E1 => S_m E1 rfl rfl fun _ E2 => S_v E2 rfl (JT E2 rfl rfl) rfl fun _ E3 => S_a E3 rfl rfl ?_))
  clear E a E1 E2 E3; intro a E
  refine Qc (T_n ?_)
  refine Qn E rfl (fun hc_6 => ?_) (fun hc_6 => ?_)
  ·refine Qb (Qa (S_m E rfl rfl fun _ E1 => S_m E1 rfl rfl ?_))
   clear E a E1; intro a E
   refine S_x (QJ (xs := ([] : List Int)) E S rfl rfl rfl T22 h0 (by (simp; omega)) ?_)
   clear E a S; rintro a w v_7 E S
   refine S_m E rfl rfl ?_
   clear E a; intro a E
   refine S_x (QJ (xs := [] ++ l0) E S rfl rfl rfl T22 h2 (by (simp; omega)) ?_)
   clear E a S; rintro a w v_8 E S
   refine S_a E rfl rfl ?_
   clear E a; intro a E
   refine Qc (T_n (Qe (B_r ?_)))
   refine T_r ?_
   have S0 := S; clear S
   obtain ⟨M_9, hM_9, hz_10, S⟩ := S0.freezeI (by ((simp; omega)))
   clear S0
   replace h0 := h0.le hM_9
   replace h2 := h2.le hM_9
   exact Qg E Tryz.results242 rfl ⟨_, rfl, M_9, hM_9, (RdS.eqL hz_10 (by unfold Yh; simp only [List.nil_append]; first | (have e := List.eq_nil_of_length_eq_zero (l := l2) (by omega); subst e; simp; done) | (rw [show min (if x1 < 0 then (x1 + ↑l0.length).toNat else x1.toNat) l0.length = l0.length by split <;> omega]; simp; done) | (rw [show min (if x1 < 0 then (x1 + ↑l0.length).toNat else x1.toNat) l0.length = 0 by split <;> omega]; simp; done) | (rw [show min (if x1 < 0 then (x1 + ↑l0.length).toNat else x1.toNat) l0.length = x1.toNat by split <;> omega]; done) | (rw [show min (if x1 < 0 then (x1 + ↑l0.length).toNat else x1.toNat) l0.length = (↑l0.length + x1).toNat by split <;> omega]; done))), S⟩
  ·refine Qb (Qa (S_m E rfl rfl fun _ E1 => S_m E1 rfl rfl fun _ E2 => S_v E2 rfl (R_negx (m := -(((l0).length : Nat) : Int)) E2 rfl rfl (by omega)) rfl fun _ E3 => S_v E3 rfl (QG E3 rfl rfl) rfl fun _ E4 => S_a E4 rfl rfl ?_))
   clear E a E1 E2 E3 E4; intro a E
   refine Qc (T_n ?_)
   refine Qn E rfl (fun hc_11 => ?_) (fun hc_11 => ?_)
   ·refine Qb (Qa (S_m E rfl rfl fun _ E1 => S_m E1 rfl rfl ?_))
    clear E a E1; intro a E
    refine S_x (QJ (xs := ([] : List Int)) E S rfl rfl rfl T22 h2 (by (simp; omega)) ?_)
    clear E a S; rintro a w v_12 E S
    refine S_m E rfl rfl ?_
    clear E a; intro a E
    refine S_x (QJ (xs := [] ++ l2) E S rfl rfl rfl T22 h0 (by (simp; omega)) ?_)
    clear E a S; rintro a w v_13 E S
    refine S_a E rfl rfl ?_
    clear E a; intro a E
    refine Qc (T_n (Qe (B_r ?_)))
    refine T_r ?_
    have S0 := S; clear S
    obtain ⟨M_14, hM_14, hz_15, S⟩ := S0.freezeI (by ((simp; omega)))
    clear S0
    replace h0 := h0.le hM_14
    replace h2 := h2.le hM_14
    exact Qg E Tryz.results242 rfl ⟨_, rfl, M_14, hM_14, (RdS.eqL hz_15 (by unfold Yh; simp only [List.nil_append]; first | (have e := List.eq_nil_of_length_eq_zero (l := l2) (by omega); subst e; simp; done) | (rw [show min (if x1 < 0 then (x1 + ↑l0.length).toNat else x1.toNat) l0.length = l0.length by split <;> omega]; simp; done) | (rw [show min (if x1 < 0 then (x1 + ↑l0.length).toNat else x1.toNat) l0.length = 0 by split <;> omega]; simp; done) | (rw [show min (if x1 < 0 then (x1 + ↑l0.length).toNat else x1.toNat) l0.length = x1.toNat by split <;> omega]; done) | (rw [show min (if x1 < 0 then (x1 + ↑l0.length).toNat else x1.toNat) l0.length = (↑l0.length + x1).toNat by split <;> omega]; done))), S⟩
   ·refine Qb (Qa (S_m E rfl rfl fun _ E1 => S_v E1 rfl (QG E1 rfl rfl) rfl fun _ E2 => S_a E2 rfl rfl ?_))
    clear E a E1 E2; intro a E
    refine Qc (T_n ?_)
    refine Qn E rfl (fun hc_16 => ?_) (fun hc_16 => ?_)
    ·refine Qa (S_m E rfl rfl fun _ E1 => S_m E1 rfl rfl fun _ E2 => S_v E2 rfl (Qq (m := (((l0).length : Nat) : Int) + x1) E2 rfl rfl (by omega) (by omega)) rfl fun _ E3 => S_a E3 rfl rfl ?_)
     clear E a E1 E2 E3; intro a E
     refine Qc (B_n (T_n (Qb ?_)))
     replace S := S.mono_heap (w' := World.drew _) rfl
     refine Jx (C := fun x w => agree M1 w) (bf := (fun i => [])) [0, 1, 2, 3, 5, 7, 8, 9, 11] [0, 1, 2, 3, 5, 7, 8, 9, 4, 6, 10, 11] Tryz.mixed (by kernel_rfl) (fun x hq => S.imm) ?_
     refine D_v E rfl rfl rfl (fun w hC => (Qu E rfl)) fun _ E1 => D_v E1 rfl rfl rfl (fun w hC => (Qu E1 rfl)) fun _ E2 => D_v E2 rfl rfl rfl (fun w hC => (Qu E2 rfl)) ?_
     clear E a E1 E2; intro a E
     obtain ⟨v_17, sv_17, hv_17⟩ := h0.subv 0 (((((l0).length : Nat) : Int) + x1).toNat) (by omega) (by omega)
     simp only [List.drop_zero] at hv_17
     replace hv_17 : RdI M1 v_17 ((l0).take (((((l0).length : Nat) : Int) + x1).toNat)) := hv_17
     refine D_v E rfl rfl rfl (fun w hC => (Jd E rfl rfl T22 sv_17 (by omega))) fun _ E1 => D_v E1 rfl rfl rfl (fun w hC => (Qu E1 rfl)) fun _ E2 => D_v E2 rfl rfl rfl (fun w hC => (Qu E2 rfl)) fun _ E3 => D_v E3 rfl rfl rfl (fun w hC => (Qu E3 rfl)) ?_
     clear E a E1 E2 E3; intro a E
     obtain ⟨v_18, sv_18, hv_18⟩ := h0.subv (((((l0).length : Nat) : Int) + x1).toNat) ((l0).length) (by omega) (by omega)
     simp only [List.take_length] at hv_18
     replace hv_18 : RdI M1 v_18 ((l0).drop (((((l0).length : Nat) : Int) + x1).toNat)) := hv_18
     refine D_v E rfl rfl rfl (fun w hC => (Jq E rfl rfl T22 h0.len sv_18 (by omega))) ?_
     clear E a; intro a E
     refine D_x rfl rfl rfl (QJ (xs := ([] : List Int)) E S rfl rfl rfl T22 hv_17 (by (simp; omega)) ?_)
     clear E a S; rintro a w v_19 E S
     refine ⟨fun x hq hb => (Qz (Hp.le.refl _) S.imm), ?_⟩
     refine D_x rfl rfl rfl (QJ (xs := [] ++ ((l0).take (((((l0).length : Nat) : Int) + x1).toNat))) E S rfl rfl rfl T22 h2 (by (simp; omega)) ?_)
     clear E a S; rintro a w v_20 E S
     refine ⟨fun x hq hb => (Qz (Hp.le.refl _) S.imm), ?_⟩
     refine D_x rfl rfl rfl (QJ (xs := ([] ++ ((l0).take (((((l0).length : Nat) : Int) + x1).toNat))) ++ l2) E S rfl rfl rfl T22 hv_18 (by (simp; omega)) ?_)
     clear E a S; rintro a w v_21 E S
     refine ⟨fun x hq hb => (Qz (Hp.le.refl _) S.imm), ?_⟩
     refine D_v E rfl rfl rfl (fun w hC => (Jm E rfl)) ?_
     clear E a; intro a E
     refine Ze (Zd ?_)
     refine T_n (Qe ?_)
     have S0 := S; clear S
     obtain ⟨M_22, hM_22, hz_23, S⟩ := S0.freezeI (by ((simp; omega)))
     clear S0
     replace h0 := h0.le hM_22
     replace h2 := h2.le hM_22
     exact Qg E Tryz.results242 rfl ⟨_, rfl, M_22, hM_22, (RdS.eqL hz_23 (by unfold Yh; simp only [List.nil_append]; first | (have e := List.eq_nil_of_length_eq_zero (l := l2) (by omega); subst e; simp; done) | (rw [show min (if x1 < 0 then (x1 + ↑l0.length).toNat else x1.toNat) l0.length = l0.length by split <;> omega]; simp; done) | (rw [show min (if x1 < 0 then (x1 + ↑l0.length).toNat else x1.toNat) l0.length = 0 by split <;> omega]; simp; done) | (rw [show min (if x1 < 0 then (x1 + ↑l0.length).toNat else x1.toNat) l0.length = x1.toNat by split <;> omega]; done) | (rw [show min (if x1 < 0 then (x1 + ↑l0.length).toNat else x1.toNat) l0.length = (↑l0.length + x1).toNat by split <;> omega]; done))), S⟩
    ·refine Qh (B_n (T_n (Qb ?_)))
     replace S := S.mono_heap (w' := World.drew _) rfl
     refine Jx (C := fun x w => agree M1 w) (bf := (fun i => [])) [0, 1, 2, 3, 5, 7, 8, 9, 11] [0, 1, 2, 3, 5, 7, 8, 9, 4, 6, 10, 11] Tryz.mixed (by kernel_rfl) (fun x hq => S.imm) ?_
     refine D_v E rfl rfl rfl (fun w hC => (Qu E rfl)) fun _ E1 => D_v E1 rfl rfl rfl (fun w hC => (Qu E1 rfl)) fun _ E2 => D_v E2 rfl rfl rfl (fun w hC => (Qu E2 rfl)) ?_
     clear E a E1 E2; intro a E
     obtain ⟨v_24, sv_24, hv_24⟩ := h0.subv 0 ((x1).toNat) (by omega) (by omega)
     simp only [List.drop_zero] at hv_24
     replace hv_24 : RdI M1 v_24 ((l0).take ((x1).toNat)) := hv_24
     refine D_v E rfl rfl rfl (fun w hC => (Jd E rfl rfl T22 sv_24 (by omega))) fun _ E1 => D_v E1 rfl rfl rfl (fun w hC => (Qu E1 rfl)) fun _ E2 => D_v E2 rfl rfl rfl (fun w hC => (Qu E2 rfl)) fun _ E3 => D_v E3 rfl rfl rfl (fun w hC => (Qu E3 rfl)) ?_
     clear E a E1 E2 E3; intro a E
     obtain ⟨v_25, sv_25, hv_25⟩ := h0.subv ((x1).toNat) ((l0).length) (by omega) (by omega)
     simp only [List.take_length] at hv_25
     replace hv_25 : RdI M1 v_25 ((l0).drop ((x1).toNat)) := hv_25
     refine D_v E rfl rfl rfl (fun w hC => (Jq E rfl rfl T22 h0.len sv_25 (by omega))) ?_
     clear E a; intro a E
     refine D_x rfl rfl rfl (QJ (xs := ([] : List Int)) E S rfl rfl rfl T22 hv_24 (by (simp; omega)) ?_)
     clear E a S; rintro a w v_26 E S
     refine ⟨fun x hq hb => (Qz (Hp.le.refl _) S.imm), ?_⟩
     refine D_x rfl rfl rfl (QJ (xs := [] ++ ((l0).take ((x1).toNat))) E S rfl rfl rfl T22 h2 (by (simp; omega)) ?_)
     clear E a S; rintro a w v_27 E S
     refine ⟨fun x hq hb => (Qz (Hp.le.refl _) S.imm), ?_⟩
     refine D_x rfl rfl rfl (QJ (xs := ([] ++ ((l0).take ((x1).toNat))) ++ l2) E S rfl rfl rfl T22 hv_25 (by (simp; omega)) ?_)
     clear E a S; rintro a w v_28 E S
     refine ⟨fun x hq hb => (Qz (Hp.le.refl _) S.imm), ?_⟩
     refine D_v E rfl rfl rfl (fun w hC => (Jm E rfl)) ?_
     clear E a; intro a E
     refine Ze (Zd ?_)
     refine T_n (Qe ?_)
     have S0 := S; clear S
     obtain ⟨M_29, hM_29, hz_30, S⟩ := S0.freezeI (by ((simp; omega)))
     clear S0
     exact Qg E Tryz.results242 rfl ⟨_, rfl, M_29, hM_29, (RdS.eqL hz_30 (by unfold Yh; simp only [List.nil_append]; first | (have e := List.eq_nil_of_length_eq_zero (l := l2) (by omega); subst e; simp; done) | (rw [show min (if x1 < 0 then (x1 + ↑l0.length).toNat else x1.toNat) l0.length = l0.length by split <;> omega]; simp; done) | (rw [show min (if x1 < 0 then (x1 + ↑l0.length).toNat else x1.toNat) l0.length = 0 by split <;> omega]; simp; done) | (rw [show min (if x1 < 0 then (x1 + ↑l0.length).toNat else x1.toNat) l0.length = x1.toNat by split <;> omega]; done) | (rw [show min (if x1 < 0 then (x1 + ↑l0.length).toNat else x1.toNat) l0.length = (↑l0.length + x1).toNat by split <;> omega]; done))), S⟩
theorem impl_Splice {M : Hp} {v0 v2 : Value} {l0 l2 : List Int} (h0 : RdI M v0 l0) (h2 : RdI M v2 l2){x1 : Int} (g1 : -9223372036854775808 ≤ x1 ∧ x1 ≤ 9223372036854775807)(hb : l0.length + l2.length ≤ 1000000000000) :
  Pu Tryz.prog (.func (.func 165) #[] #[]) M [v0, .int .i64 x1, v2] (fun r M' => RdI M' r (Yh l0 x1 l2)) := by
 refine Qk Tryz.func165 rfl Tryz.ntmps165 rfl Tryz.call165 ?_
 intro a w M1 H hM1 S E
 replace h0 := h0.le hM1
 replace h2 := h2.le hM1
 have b0 := h0.bound
 have b2 := h2.bound
 refine Qb (Qa (S_a E rfl rfl fun _ E1 => Qc (T_n (Qb (Qa (S_m E1 rfl rfl fun _ E2 => S_m E2 rfl rfl fun _ E3 => S_m E3 rfl rfl ?_))))))
 clear E a E1 E2 E3; intro a E
 refine S_x (Qr E S rfl rfl rfl (lo_Splice h0 h2 (by (omega)) (by (omega))) (Hp.le.refl _) ?_)
 clear E a S; rintro a v_2 w M_1 hM_1 hv_2 S E
 refine S_a E rfl rfl ?_
 clear E a; intro a E
 refine Qc (T_n (Qe ?_))
 exact Qg E Tryz.results165 rfl ⟨_, rfl, M_1, hM_1, hv_2, S⟩
theorem yD {M : Hp} {m8 : Value} {q8 : List Int} (hm8 : RdM M m8 (Sl.encS q8)){x0 : Int} {bx8 : Nat} (hbx8 : M bx8 = some (.cells #[m8] 116)) :
  Pu Tryz.prog (.func (.func 314) #[] #[.pointer (some ⟨bx8, 0, none⟩)]) M [.int .i64 x0] (fun r M' => r = .bool (decide (x0 ∈ q8))) := by
 refine Qk Tryz.func314 rfl Tryz.ntmps314 rfl Tryz.call314 ?_
 intro a w M1 H hM1 S E
 replace hm8 := hm8.le hM1
 replace hbx8 := hM1.2 _ _ hbx8
 refine Qb (Qa (S_a E rfl rfl fun _ E1 => Qc (T_n (Qb (Qa (S_v E1 rfl (Qj E1 rfl Tryz.isAgg116 S.imm (Jw hbx8)) rfl fun _ E2 => S_m E2 rfl rfl fun _ E3 => S_v E3 rfl (jc S.imm hm8 E3 Yg rfl rfl) rfl fun _ E4 => S_m E4 rfl rfl fun _ E5 => S_v E5 rfl (Qm E5 rfl rfl) rfl ?_))))))
 clear E a E1 E2 E3 E4 E5; intro a E
 refine S_v E rfl (Qm E rfl rfl) rfl ?_
 clear E a; intro a E
 refine S_x (Jp (cs := #[]) E S rfl Tryz.zeroValue117 rfl ?_)
 clear E a S; rintro a w b_1 E S
 refine Zr (Jz (us := []) E S rfl rfl (Tryz.sizeOf117 _) rfl (by intro u hu; cases hu) ?_)
 clear E a S; rintro a w E S
 replace S : St w M1 (blk b_1 (.cells #[] 117) :: _) := S
 have S0 := S; clear S
 obtain ⟨M_2, hM_2, hb_3, S⟩ := S0.freezeB
 clear S0
 refine S_a E rfl rfl fun _ E1 => Qc (T_n (Qb (Qa (S_m E1 rfl rfl fun _ E2 => S_a E2 rfl rfl ?_))))
 clear E a E1 E2; intro a E
 refine Qc (T_n (Qe ?_))
 exact Qg E Tryz.results314 rfl ⟨_, rfl, M_2, hM_2, rfl, S⟩
theorem vT {M : Hp} {v0 v1 : Value} {l0 l1 : List Int} (h0 : RdI M v0 l0) (h1 : RdI M v1 l1) (hb : l0.length ≤ 1000000000000) :
  Pu Tryz.prog (.func (.func 243) #[] #[]) M [v0, v1] (fun r M' => RdI M' r ((l0).dropWhile (fun x => decide (x ∈ l1)))) := by
 refine Qk Tryz.func243 rfl Tryz.ntmps243 rfl Tryz.call243 ?_
 intro a w M1 H hM1 S E
 replace h0 := h0.le hM1
 replace h1 := h1.le hM1
 have b0 := h0.bound
 have b1 := h1.bound
 refine Qb (Qa (S_a E rfl rfl fun _ E1 => Qc (T_n (Qb (Qa (S_m E1 rfl rfl ?_))))))
 clear E a E1; intro a E
 refine S_x (Vv (p := []) E S rfl rfl rfl (ZO h1) (Hp.le.refl _) ?_)
 clear E a S; rintro a _ w M_1 _ hM_1 ⟨v_2, rfl, rfl⟩ S E
 replace S : St w M_1 (Zs v_2 (QC l1) :: _) := S
 replace h0 := h0.le hM_1
 refine S_x (Jp (cs := #[.map none]) E S rfl Tryz.zeroValue116 rfl ?_)
 clear E a S; rintro a w b_3 E S
 refine Zr (WA E S rfl rfl (Tryz.sizeOf116 _) rfl ?_)
 clear E a S; rintro a w E S
 refine Qc (T_n (Qb (Qa (S_m E rfl rfl ?_))))
 clear E a; intro a E
 replace S := S.front1
 have S0 := S; clear S
 obtain ⟨M_4, hM_4, hm_5, S⟩ := S0.freezeM
 clear S0
 replace h0 := h0.le hM_4
 have S0 := S; clear S
 obtain ⟨M_6, hM_6, hb_7, S⟩ := S0.freezeB
 clear S0
 replace h0 := h0.le hM_6
 replace hm_5 := hm_5.le hM_6
 refine S_v E rfl (QT E rfl rfl) rfl ?_
 clear E a; intro a E
 refine S_x (Qr E S rfl rfl rfl (Gp h0 ⟨rfl, fun zx0 => yD (x0 := zx0) hm_5 hb_7⟩ (by (omega))) (Hp.le.refl _) ?_)
 clear E a S; rintro a v_9 w M_8 hM_8 hv_9 S E
 refine S_a E rfl rfl ?_
 clear E a; intro a E
 refine Qc (T_n (Qe ?_))
 exact Qg E Tryz.results243 rfl ⟨_, rfl, M_8, (hM_1.trans (hM_4.trans (hM_6.trans hM_8))), (RdS.eqL hv_9 (by (simp only [JZ]))), S⟩
theorem jE {M : Hp} {v0 v1 : Value} {l0 l1 : List Int} (h0 : RdI M v0 l0) (h1 : RdI M v1 l1) (hb : l0.length ≤ 1000000000000) :
  Pu Tryz.prog (.func (.func 166) #[] #[]) M [v0, v1] (fun r M' => RdI M' r ((l0).dropWhile (fun x => decide (x ∈ l1)))) := by
 refine Qk Tryz.func166 rfl Tryz.ntmps166 rfl Tryz.call166 ?_
 intro a w M1 H hM1 S E
 replace h0 := h0.le hM1
 replace h1 := h1.le hM1
 have b0 := h0.bound
 have b1 := h1.bound
 have hw1 := dwlen (fun x => decide (x ∈ l1)) l0
 refine Qb (Qa (S_a E rfl rfl fun _ E1 => Qc (T_n (Qb (Qa (S_m E1 rfl rfl fun _ E2 => S_m E2 rfl rfl ?_))))))
 clear E a E1 E2; intro a E
 refine S_x (Qr E S rfl rfl rfl (vT h0 h1 (by (omega))) (Hp.le.refl _) ?_)
 clear E a S; rintro a v_2 w M_1 hM_1 hv_2 S E
 refine S_a E rfl rfl ?_
 clear E a; intro a E
 refine Qc (T_n (Qe ?_))
 exact Qg E Tryz.results166 rfl ⟨_, rfl, M_1, hM_1, hv_2, S⟩
theorem jt {M : Hp} {m8 : Value} {q8 : List Int} (hm8 : RdM M m8 (Sl.encS q8)){x0 : Int} {bx8 : Nat} (hbx8 : M bx8 = some (.cells #[m8] 116)) :
  Pu Tryz.prog (.func (.func 315) #[] #[.pointer (some ⟨bx8, 0, none⟩)]) M [.int .i64 x0] (fun r M' => r = .bool (decide (x0 ∈ q8))) := by
 refine Qk Tryz.func315 rfl Tryz.ntmps315 rfl Tryz.call315 ?_
 intro a w M1 H hM1 S E
 replace hm8 := hm8.le hM1
 replace hbx8 := hM1.2 _ _ hbx8
 refine Qb (Qa (S_a E rfl rfl fun _ E1 => Qc (T_n (Qb (Qa (S_v E1 rfl (Qj E1 rfl Tryz.isAgg116 S.imm (Jw hbx8)) rfl fun _ E2 => S_m E2 rfl rfl fun _ E3 => S_v E3 rfl (jc S.imm hm8 E3 Yg rfl rfl) rfl fun _ E4 => S_m E4 rfl rfl fun _ E5 => S_v E5 rfl (Qm E5 rfl rfl) rfl ?_))))))
 clear E a E1 E2 E3 E4 E5; intro a E
 refine S_v E rfl (Qm E rfl rfl) rfl ?_
 clear E a; intro a E
 refine S_x (Jp (cs := #[]) E S rfl Tryz.zeroValue117 rfl ?_)
 clear E a S; rintro a w b_1 E S
 refine Zr (Jz (us := []) E S rfl rfl (Tryz.sizeOf117 _) rfl (by intro u hu; cases hu) ?_)
 clear E a S; rintro a w E S
 replace S : St w M1 (blk b_1 (.cells #[] 117) :: _) := S
 have S0 := S; clear S
 obtain ⟨M_2, hM_2, hb_3, S⟩ := S0.freezeB
 clear S0
 refine S_a E rfl rfl fun _ E1 => Qc (T_n (Qb (Qa (S_m E1 rfl rfl fun _ E2 => S_a E2 rfl rfl ?_))))
 clear E a E1 E2; intro a E
 refine Qc (T_n (Qe ?_))
 exact Qg E Tryz.results315 rfl ⟨_, rfl, M_2, hM_2, rfl, S⟩
theorem yC {M : Hp} {v0 v1 : Value} {l0 l1 : List Int} (h0 : RdI M v0 l0) (h1 : RdI M v1 l1) (hb : l0.length ≤ 1000000000000) :
  Pu Tryz.prog (.func (.func 244) #[] #[]) M [v0, v1] (fun r M' => RdI M' r (drw (fun x => decide (x ∈ l1)) l0)) := by
 refine Qk Tryz.func244 rfl Tryz.ntmps244 rfl Tryz.call244 ?_
 intro a w M1 H hM1 S E
 replace h0 := h0.le hM1
 replace h1 := h1.le hM1
 have b0 := h0.bound
 have b1 := h1.bound
 refine Qb (Qa (S_a E rfl rfl fun _ E1 => Qc (T_n (Qb (Qa (S_m E1 rfl rfl ?_))))))
 clear E a E1; intro a E
 refine S_x (Vv (p := []) E S rfl rfl rfl (ZO h1) (Hp.le.refl _) ?_)
 clear E a S; rintro a _ w M_1 _ hM_1 ⟨v_2, rfl, rfl⟩ S E
 replace S : St w M_1 (Zs v_2 (QC l1) :: _) := S
 replace h0 := h0.le hM_1
 refine S_x (Jp (cs := #[.map none]) E S rfl Tryz.zeroValue116 rfl ?_)
 clear E a S; rintro a w b_3 E S
 refine Zr (WA E S rfl rfl (Tryz.sizeOf116 _) rfl ?_)
 clear E a S; rintro a w E S
 refine Qc (T_n (Qb (Qa (S_m E rfl rfl ?_))))
 clear E a; intro a E
 replace S := S.front1
 have S0 := S; clear S
 obtain ⟨M_4, hM_4, hm_5, S⟩ := S0.freezeM
 clear S0
 replace h0 := h0.le hM_4
 have S0 := S; clear S
 obtain ⟨M_6, hM_6, hb_7, S⟩ := S0.freezeB
 clear S0
 replace h0 := h0.le hM_6
 replace hm_5 := hm_5.le hM_6
 refine S_v E rfl (QT E rfl rfl) rfl ?_
 clear E a; intro a E
 refine S_x (Qr E S rfl rfl rfl (VA h0 ⟨rfl, fun zx0 => jt (x0 := zx0) hm_5 hb_7⟩ (by (omega))) (Hp.le.refl _) ?_)
 clear E a S; rintro a v_9 w M_8 hM_8 hv_9 S E
 refine S_a E rfl rfl ?_
 clear E a; intro a E
 refine Qc (T_n (Qe ?_))
 exact Qg E Tryz.results244 rfl ⟨_, rfl, M_8, (hM_1.trans (hM_4.trans (hM_6.trans hM_8))), (RdS.eqL hv_9 (by (simp only [JZ]))), S⟩
theorem zH {M : Hp} {v0 v1 : Value} {l0 l1 : List Int} (h0 : RdI M v0 l0) (h1 : RdI M v1 l1) (hb : l0.length ≤ 1000000000000) :
  Pu Tryz.prog (.func (.func 167) #[] #[]) M [v0, v1] (fun r M' => RdI M' r (drw (fun x => decide (x ∈ l1)) l0)) := by
 refine Qk Tryz.func167 rfl Tryz.ntmps167 rfl Tryz.call167 ?_
 intro a w M1 H hM1 S E
 replace h0 := h0.le hM1
 replace h1 := h1.le hM1
 have b0 := h0.bound
 have b1 := h1.bound
 have hw1 := vd (fun x => decide (x ∈ l1)) l0
 refine Qb (Qa (S_a E rfl rfl fun _ E1 => Qc (T_n (Qb (Qa (S_m E1 rfl rfl fun _ E2 => S_m E2 rfl rfl ?_))))))
 clear E a E1 E2; intro a E
 refine S_x (Qr E S rfl rfl rfl (yC h0 h1 (by (omega))) (Hp.le.refl _) ?_)
 clear E a S; rintro a v_2 w M_1 hM_1 hv_2 S E
 refine S_a E rfl rfl ?_
 clear E a; intro a E
 refine Qc (T_n (Qe ?_))
 exact Qg E Tryz.results167 rfl ⟨_, rfl, M_1, hM_1, hv_2, S⟩
theorem lo_Trim {M : Hp} {v0 v1 : Value} {l0 l1 : List Int} (h0 : RdI M v0 l0) (h1 : RdI M v1 l1) (hb : l0.length ≤ 1000000000000) :
  Pu Tryz.prog (.func (.func 245) #[] #[]) M [v0, v1] (fun r M' => RdI M' r (drw (fun x => decide (x ∈ l1)) ((l0).dropWhile (fun x => decide (x ∈ l1))))) := by
 refine Qk Tryz.func245 rfl Tryz.ntmps245 rfl Tryz.call245 ?_
 intro a w M1 H hM1 S E
 replace h0 := h0.le hM1
 replace h1 := h1.le hM1
 have b0 := h0.bound
 have b1 := h1.bound
 refine Qb (Qa (S_a E rfl rfl fun _ E1 => Qc (T_n (Qb (Qa (S_m E1 rfl rfl ?_))))))
 clear E a E1; intro a E
 refine S_x (Vv (p := []) E S rfl rfl rfl (ZO h1) (Hp.le.refl _) ?_)
 clear E a S; rintro a _ w M_1 _ hM_1 ⟨v_2, rfl, rfl⟩ S E
 replace S : St w M_1 (Zs v_2 (QC l1) :: _) := S
 replace h0 := h0.le hM_1
 refine S_a E rfl rfl fun _ E1 => Qc (T_n (Qb (Qa (S_a E1 rfl rfl ?_))))
 clear E a E1; intro a E
 refine Qc (T_n (Qb ?_))
 refine WP_join (fun a w => ∃ (M_3 : Hp) (k : Nat), Hp.le M_1 M_3 ∧ St w M_3 (Zs v_2 (QC l1) :: H) ∧ Env a 67 [] [(0, v0), (5, .map (some v_2)), (6, .int .i64 ((k : Nat) : Int))] ∧ (k ≤ l0.length) ∧ (∀ x ∈ l0.take k, decide (x ∈ QC l1) = true) ∧ (l0.length ≤ k ∨ ∃ x, l0[k]? = some x ∧ decide (x ∈ QC l1) = false)) ?_ ?_
 ·refine Qi ?_
  refine Qx (γ := Nat) (fun (k : Nat) a w => ∃ (M_4 : Hp), Hp.le M_1 M_4 ∧ St w M_4 (Zs v_2 (QC l1) :: H) ∧ Env a 67 [] [(0, v0), (5, .map (some v_2)), (6, .int .i64 ((k : Nat) : Int))] ∧ (k ≤ (l0).length) ∧ (∀ x ∈ l0.take k, decide (x ∈ QC l1) = true)) (fun k => ((l0).length) - k) 0 ⟨M_1, Hp.le.refl _, S, E.keep ⟨rfl, rfl, rfl, trivial⟩, by (omega), (by simp)⟩ ?_
  try clear E
  try clear S
  try clear a
  try clear w
  rintro k a w ⟨M_4, hM_4, S, E, hL0_0, hL0_1⟩
  replace h0 := h0.le hM_4
  refine Qb (Qb (Qa (S_m E rfl rfl fun _ E1 => S_m E1 rfl rfl fun _ E2 => S_v E2 rfl (Qp E2 rfl T22 h0.len) rfl fun _ E3 => S_v E3 rfl (QG E3 rfl rfl) rfl ?_)))
  clear E a E1 E2 E3; intro a E
  refine Qc (T_n ?_)
  refine Qn E rfl (fun hc_5 => ?_) (fun hc_5 => ?_)
  ·refine Qh (T_n (Qb (Qi (Qb (Qa (S_m E rfl rfl fun _ E1 => S_m E1 rfl rfl fun _ E2 => S_m E2 rfl rfl ?_))))))
   clear E a E1 E2; intro a E
   obtain ⟨x_6, hx_6⟩ : ∃ x, (l0)[k]? = some x := ⟨_, List.getElem?_eq_getElem (by omega)⟩
   obtain ⟨p_7, hp_7, qp_7⟩ := h0.at hx_6
   refine S_v E rfl (QB E rfl rfl T22 hp_7 rfl) rfl fun _ E1 => S_v E1 rfl (Qj E1 rfl Tryz.isAgg3 S.imm qp_7) rfl ?_
   clear E a E1; intro a E
   refine S_x (ZF E S rfl Yg rfl rfl ?_)
   clear E a S; rintro a w E S
   replace S : St w M_4 (Zs v_2 (QC l1) :: _) := S
   refine S_m E rfl rfl fun _ E1 => S_v E1 rfl (Qm E1 rfl rfl) rfl fun _ E2 => S_v E2 rfl (Qm E2 rfl rfl) rfl ?_
   clear E a E1 E2; intro a E
   refine S_x (Jp (cs := #[]) E S rfl Tryz.zeroValue117 rfl ?_)
   clear E a S; rintro a w b_8 E S
   refine Zr (Jz (us := []) E S rfl rfl (Tryz.sizeOf117 _) rfl (by intro u hu; cases hu) ?_)
   clear E a S; rintro a w E S
   replace S : St w M_4 (blk b_8 (.cells #[] 117) :: _) := S
   have S0 := S; clear S
   obtain ⟨M_9, hM_9, hb_10, S⟩ := S0.freezeB
   clear S0
   replace h0 := h0.le hM_9
   refine S_a E rfl rfl fun _ E1 => Qc (T_n (Qb (Qa (S_m E1 rfl rfl fun _ E2 => S_v E2 rfl (Zk E2 rfl) rfl ?_))))
   clear E a E1 E2; intro a E
   refine Qc (T_n ?_)
   refine QL E rfl (fun hc_11 => ?_) (fun hc_11 => ?_)
   ·refine Qt ?_
    refine B_y rfl ?_
    refine T_x (T_x (B_x ?_))
    refine .inl ⟨rfl, ?_⟩
    exact ⟨M_9, k, (hM_4.trans hM_9), S, E.keep ⟨rfl, rfl, rfl, trivial⟩, (by omega), (by exact hL0_1), (by (exact .inr ⟨_, by assumption, by simp_all⟩))⟩
   ·refine Qh ?_
    refine B_n (T_n (Qa (S_m E rfl rfl fun _ E1 => S_v E1 rfl (Qq (m := ((k + 1 : Nat) : Int)) E1 rfl rfl (by omega) (by omega)) rfl fun _ E2 => S_a E2 rfl rfl ?_)))
    clear E a E1 E2; intro a E
    refine Qc (T_n ?_)
    exact ⟨k + 1, ⟨M_9, (hM_4.trans hM_9), S, E.keep ⟨rfl, rfl, rfl, trivial⟩, by (omega), (by exact VP (P := fun x => decide (x ∈ QC l1) = true) hL0_1 (by assumption) (by simp_all))⟩, by omega⟩
  ·refine Qt (T_x (T_x (B_x ?_)))
   refine .inl ⟨rfl, ?_⟩
   exact ⟨M_4, k, hM_4, S, E.keep ⟨rfl, rfl, rfl, trivial⟩, (by omega), (by exact hL0_1), (by (exact .inl (by omega)))⟩
 ·clear E S a w
  rintro a w ⟨M_3, k, hM_3, S, E, hJ0_0, hJ0_1, hJ0_2⟩
  replace h0 := h0.le hM_3
  refine T_n (Qb (Qb (Qa (S_m E rfl rfl fun _ E1 => S_m E1 rfl rfl fun _ E2 => S_v E2 rfl (Qp E2 rfl T22 h0.len) rfl fun _ E3 => S_v E3 rfl (YV E3 rfl rfl) rfl ?_))))
  clear E a E1 E2 E3; intro a E
  refine Qc (T_n ?_)
  refine Qn E rfl (fun hc_12 => ?_) (fun hc_12 => ?_)
  ·refine Qb (Qa ?_)
   refine S_x (Qy (ys := []) E S rfl T22 rfl rfl rfl ?_)
   clear E a S; rintro a w v_13 E S
   refine S_a E rfl rfl ?_
   clear E a; intro a E
   refine Qc (T_n (Qe ?_))
   refine T_r ?_
   have S0 := S; clear S
   obtain ⟨M_14, hM_14, hz_15, S⟩ := S0.freezeI (by ((simp; done)))
   clear S0
   replace h0 := h0.le hM_14
   exact Qg E Tryz.results245 rfl ⟨_, rfl, M_14, (hM_1.trans (hM_3.trans hM_14)), (RdS.eqL hz_15 (by (simp only [← JZ (l := l1)]; rw [qo (f := fun x => decide (x ∈ QC l1)) hJ0_1 (.inl (by omega)), List.drop_eq_nil_of_le (by omega)]; rfl))), S.drop⟩
  ·refine Qh (T_n (Qb (Qa (S_m E rfl rfl fun _ E1 => S_v E1 rfl (Qp E1 rfl T22 h0.len) rfl fun _ E2 => S_v E2 rfl (Jg (m := (((l0).length : Nat) : Int) - 1) E2 rfl rfl (by omega) (by omega)) rfl fun _ E3 => S_a E3 rfl rfl ?_))))
   clear E a E1 E2 E3; intro a E
   refine Qc (T_n (Qb ?_))
   refine WP_join (fun a w => ∃ (M_16 : Hp) (j : Nat), Hp.le M_3 M_16 ∧ St w M_16 (Zs v_2 (QC l1) :: H) ∧ Env a 67 [] [(0, v0), (6, .int .i64 ((k : Nat) : Int)), (9, .int .i64 ((l0.length : Int) - 1 - (j : Int)))] ∧ (j ≤ l0.length) ∧ (drw (fun x => decide (x ∈ QC l1)) l0 = l0.take (l0.length - j))) ?_ ?_
   ·refine Qi ?_
    refine Qx (γ := Nat) (fun (j : Nat) a w => ∃ (M_17 : Hp), Hp.le M_3 M_17 ∧ St w M_17 (Zs v_2 (QC l1) :: H) ∧ Env a 67 [] [(0, v0), (5, .map (some v_2)), (6, .int .i64 ((k : Nat) : Int)), (9, .int .i64 ((l0.length : Int) - 1 - (j : Int)))] ∧ (j ≤ l0.length) ∧ (∀ x ∈ l0.drop (l0.length - j), (fun x => decide (x ∈ QC l1)) x = true)) (fun j => l0.length - j) 0 ⟨M_3, Hp.le.refl _, S, E.keep ⟨rfl, rfl, rfl, Za (i := (((l0).length : Nat) : Int) - 1) rfl (by (simp)), trivial⟩, by (omega), (by simp)⟩ ?_
    try clear E
    try clear S
    try clear a
    try clear w
    rintro j a w ⟨M_17, hM_17, S, E, hL1_0, hL1_1⟩
    replace h0 := h0.le hM_17
    refine Qb (Qb (Qa (S_m E rfl rfl fun _ E1 => S_v E1 rfl (YV E1 rfl rfl) rfl ?_)))
    clear E a E1; intro a E
    refine Qc (T_n ?_)
    refine Qn E rfl (fun hc_18 => ?_) (fun hc_18 => ?_)
    ·refine Qh (T_n (Qb (Qi (Qb (Qa (S_m E rfl rfl fun _ E1 => S_m E1 rfl rfl fun _ E2 => S_m E2 rfl rfl ?_))))))
     clear E a E1 E2; intro a E
     obtain ⟨x_19, hx_19⟩ : ∃ x, (l0)[l0.length - 1 - j]? = some x := ⟨_, List.getElem?_eq_getElem (by omega)⟩
     obtain ⟨p_20, hp_20, qp_20⟩ := h0.at hx_19
     refine S_v E rfl (QB E rfl rfl T22 hp_20 (by omega)) rfl fun _ E1 => S_v E1 rfl (Qj E1 rfl Tryz.isAgg3 S.imm qp_20) rfl ?_
     clear E a E1; intro a E
     refine S_x (ZF E S rfl Yg rfl rfl ?_)
     clear E a S; rintro a w E S
     replace S : St w M_17 (Zs v_2 (QC l1) :: _) := S
     refine S_m E rfl rfl fun _ E1 => S_v E1 rfl (Qm E1 rfl rfl) rfl fun _ E2 => S_v E2 rfl (Qm E2 rfl rfl) rfl ?_
     clear E a E1 E2; intro a E
     refine S_x (Jp (cs := #[]) E S rfl Tryz.zeroValue117 rfl ?_)
     clear E a S; rintro a w b_21 E S
     refine Zr (Jz (us := []) E S rfl rfl (Tryz.sizeOf117 _) rfl (by intro u hu; cases hu) ?_)
     clear E a S; rintro a w E S
     replace S : St w M_17 (blk b_21 (.cells #[] 117) :: _) := S
     have S0 := S; clear S
     obtain ⟨M_22, hM_22, hb_23, S⟩ := S0.freezeB
     clear S0
     replace h0 := h0.le hM_22
     refine S_a E rfl rfl fun _ E1 => Qc (T_n (Qb (Qa (S_m E1 rfl rfl fun _ E2 => S_v E2 rfl (Zk E2 rfl) rfl ?_))))
     clear E a E1 E2; intro a E
     refine Qc (T_n ?_)
     refine QL E rfl (fun hc_24 => ?_) (fun hc_24 => ?_)
     ·refine Qt ?_
      refine B_y rfl ?_
      refine T_x (T_x (B_x ?_))
      refine .inl ⟨rfl, ?_⟩
      exact ⟨M_22, j, (hM_17.trans hM_22), S, E.keep ⟨rfl, rfl, rfl, trivial⟩, (by omega), (by (exact We (f := fun x => decide (x ∈ QC l1)) (by omega) hL1_1 (.inr ⟨_, by assumption, by simp_all⟩)))⟩
     ·refine Qh ?_
      refine B_n (T_n (Qa (S_m E rfl rfl fun _ E1 => S_v E1 rfl (Jg (m := ((l0.length : Int) - 1 - (j : Int)) - 1) E1 rfl rfl (by omega) (by omega)) rfl fun _ E2 => S_a E2 rfl rfl ?_)))
      clear E a E1 E2; intro a E
      refine Qc (T_n ?_)
      exact ⟨j + 1, ⟨M_22, (hM_17.trans hM_22), S, E.keep ⟨rfl, rfl, rfl, Za (i := ((l0.length : Int) - 1 - (j : Int)) - 1) rfl (by (omega)), trivial⟩, (by omega), (by exact zS (f := fun x => decide (x ∈ QC l1)) hL1_1 (by omega) (by assumption) (by simp_all))⟩, by omega⟩
    ·refine Qt (T_x (T_x (B_x ?_)))
     refine .inl ⟨rfl, ?_⟩
     exact ⟨M_17, j, hM_17, S, E.keep ⟨rfl, rfl, rfl, trivial⟩, (by omega), (by (exact We (f := fun x => decide (x ∈ QC l1)) (by omega) hL1_1 (.inl (by omega))))⟩
   ·clear E S a w
    rintro a w ⟨M_16, j, hM_16, S, E, hJ1_0, hJ1_1⟩
    replace h0 := h0.le hM_16
    obtain ⟨x9, hx9, hf9⟩ : ∃ x, l0[k]? = some x ∧ decide (x ∈ QC l1) = false := hJ0_2.resolve_left (by omega)
    have htr := trim_eq (f := fun x => decide (x ∈ QC l1)) hJ0_1 hx9 hf9 hJ1_1 hJ1_0
    have hjk : k < l0.length - j := (by have h3 := trim_lt (f := fun x => decide (x ∈ QC l1)) hx9 hf9 hJ1_1; omega)
    refine T_n (Qb (Qa (S_m E rfl rfl fun _ E1 => S_v E1 rfl (Qq (m := ((l0.length : Int) - 1 - (j : Int)) + 1) E1 rfl rfl (by omega) (by omega)) rfl fun _ E2 => S_m E2 rfl rfl fun _ E3 => S_v E3 rfl (Jg (m := (((l0.length : Int) - 1 - (j : Int)) + 1) - ((k : Nat) : Int)) E3 rfl rfl (by omega) (by omega)) rfl ?_)))
    clear E a E1 E2 E3; intro a E
    refine S_x (Jf (k := ((((l0.length : Int) - 1 - (j : Int)) + 1) - ((k : Nat) : Int)).toNat) E S rfl rfl rfl T22 rfl (by omega) (by omega) (by omega) ?_)
    clear E a S; rintro a w v_25 E S
    replace S := S.made0
    refine S_a E rfl rfl fun _ E1 => Qc (T_n (Qb (Qa (S_m E1 rfl rfl fun _ E2 => S_m E2 rfl rfl fun _ E3 => S_m E3 rfl rfl fun _ E4 => S_m E4 rfl rfl fun _ E5 => S_v E5 rfl (Qq (m := ((l0.length : Int) - 1 - (j : Int)) + 1) E5 rfl rfl (by omega) (by omega)) rfl ?_))))
    clear E a E1 E2 E3 E4 E5; intro a E
    obtain ⟨v_26, sv_26, hv_26⟩ := h0.subv k ((((l0.length : Int) - 1 - (j : Int)) + 1).toNat) (by omega) (by omega)
    replace hv_26 : RdI M_16 v_26 (((l0).take ((((l0.length : Int) - 1 - (j : Int)) + 1).toNat)).drop k) := hv_26
    refine S_v E rfl (Je E rfl rfl rfl T22 sv_26 (by omega) (by omega)) rfl ?_
    clear E a; intro a E
    refine S_x (QJ (xs := ([] : List Int)) E S rfl rfl rfl T22 hv_26 (by (simp; omega)) ?_)
    clear E a S; rintro a w v_27 E S
    refine S_a E rfl rfl ?_
    clear E a; intro a E
    refine Qc (T_n (Qe ?_))
    have S0 := S; clear S
    obtain ⟨M_28, hM_28, hz_29, S⟩ := S0.freezeI (by ((simp; omega)))
    clear S0
    exact Qg E Tryz.results245 rfl ⟨_, rfl, M_28, (hM_1.trans (hM_3.trans (hM_16.trans hM_28))), (RdS.eqL hz_29 (by (simp only [← JZ (l := l1)]; rw [htr, List.nil_append, show ((l0.length : Int) - 1 - (j : Int) + 1).toNat = l0.length - j by omega]))), S.drop⟩
theorem impl_Trim {M : Hp} {v0 v1 : Value} {l0 l1 : List Int} (h0 : RdI M v0 l0) (h1 : RdI M v1 l1) (hb : l0.length ≤ 1000000000000) :
  Pu Tryz.prog (.func (.func 168) #[] #[]) M [v0, v1] (fun r M' => RdI M' r (drw (fun x => decide (x ∈ l1)) ((l0).dropWhile (fun x => decide (x ∈ l1))))) := by
 refine Qk Tryz.func168 rfl Tryz.ntmps168 rfl Tryz.call168 ?_
 intro a w M1 H hM1 S E
 replace h0 := h0.le hM1
 replace h1 := h1.le hM1
 have b0 := h0.bound
 have b1 := h1.bound
 have hw1 := dwlen (fun x => decide (x ∈ l1)) l0; have hw2 := vd (fun x => decide (x ∈ l1)) (l0.dropWhile (fun x => decide (x ∈ l1)))
 refine Qb (Qa (S_a E rfl rfl fun _ E1 => Qc (T_n (Qb (Qa (S_m E1 rfl rfl fun _ E2 => S_m E2 rfl rfl ?_))))))
 clear E a E1 E2; intro a E
 refine S_x (Qr E S rfl rfl rfl (lo_Trim h0 h1 (by (omega))) (Hp.le.refl _) ?_)
 clear E a S; rintro a v_2 w M_1 hM_1 hv_2 S E
 refine S_a E rfl rfl ?_
 clear E a; intro a E
 refine Qc (T_n (Qe ?_))
 exact Qg E Tryz.results168 rfl ⟨_, rfl, M_1, hM_1, hv_2, S⟩
theorem Gm {M : Hp} {v0 v1 : Value} {l0 l1 : List Int} (h0 : RdI M v0 l0) (h1 : RdI M v1 l1) :
  Pu Tryz.prog (.func (.func 316) #[] #[]) M [v0, v1] (fun r M' => r = .bool (Yz l0 l1)) := by
 refine Qk Tryz.func316 rfl Tryz.ntmps316 rfl Tryz.call316 ?_
 intro a w M1 H hM1 S E
 replace h0 := h0.le hM1
 replace h1 := h1.le hM1
 have b0 := h0.bound
 have b1 := h1.bound
 refine Qb (Qa (S_a E rfl rfl fun _ E1 => Qc (T_n (Qb (Qb (Qa (S_m E1 rfl rfl fun _ E2 => S_v E2 rfl (Qp E2 rfl T22 h0.len) rfl fun _ E3 => S_m E3 rfl rfl fun _ E4 => S_v E4 rfl (Qp E4 rfl T22 h1.len) rfl fun _ E5 => S_v E5 rfl (QG E5 rfl rfl) rfl ?_)))))))
 clear E a E1 E2 E3 E4 E5; intro a E
 refine Qc (T_n ?_)
 refine Qn E rfl (fun hc_1 => ?_) (fun hc_1 => ?_)
 ·refine Qb (Qa (S_a E rfl rfl ?_))
  clear E a; intro a E
  refine Qc (T_n (Qe ?_))
  refine T_r ?_
  exact Qg E Tryz.results316 rfl ⟨_, rfl, M1, (Hp.le.refl _), (congrArg Value.bool (by (clear E S; first | exact YH (by omega) | exact (YH (by omega)).symm | exact Ww (by assumption) (by assumption) (by assumption) | exact (Ww (by assumption) (by assumption) (by assumption)).symm | exact Ug (k := k) (by omega) (by assumption) (by omega) | exact (Ug (k := k) (by omega) (by assumption) (by omega)).symm))), S⟩
 ·refine Qh (T_n (Qb (Qb (Qa (S_m E rfl rfl fun _ E1 => S_v E1 rfl (Qp E1 rfl T22 h1.len) rfl fun _ E2 => S_m E2 rfl rfl ?_)))))
  clear E a E1 E2; intro a E
  refine Qc (T_n (Qi ?_))
  refine Qx (γ := Nat) (fun (k : Nat) a w => ∃ (M_2 : Hp), Hp.le M1 M_2 ∧ St w M_2 (H) ∧ Env a 26 [] [(0, v0), (1, v1), (12, .int .i64 (((l1).length : Nat) : Int)), (13, .int .i64 ((k : Nat) : Int))] ∧ (k ≤ (l1).length) ∧ (l1.length ≤ l0.length) ∧ (l0.take k = l1.take k)) (fun k => ((l1).length) - k) 0 ⟨M1, Hp.le.refl _, S, E.keep ⟨rfl, rfl, rfl, rfl, trivial⟩, by ((try clear S); (try clear E); first | assumption | omega | rfl | (simp; done) | (simp_all; done) | (simp [List.take_add_one, *]; done) | grind [List.take_add_one]), by ((try clear S); (try clear E); first | assumption | omega | rfl | (simp; done) | (simp_all; done) | (simp [List.take_add_one, *]; done) | grind [List.take_add_one]), by ((try clear S); (try clear E); first | assumption | omega | rfl | (simp; done) | (simp_all; done) | (simp [List.take_add_one, *]; done) | grind [List.take_add_one])⟩ ?_
  try clear E
  try clear S
  try clear a
  try clear w
  rintro k a w ⟨M_2, hM_2, S, E, hL0_0, hL0_1, hL0_2⟩
  replace h0 := h0.le hM_2
  replace h1 := h1.le hM_2
  refine Qb (Qa (S_v E rfl (QG E rfl rfl) rfl ?_))
  clear E a; intro a E
  refine Qc (T_n (Qb ?_))
  refine Qn E rfl (fun hc_3 => ?_) (fun hc_3 => ?_)
  ·refine Qh (T_n (Qb (Qi (Qb (Qa (S_m E rfl rfl fun _ E1 => S_a E1 rfl rfl ?_))))))
   clear E a E1; intro a E
   refine Qc (T_n (Qb ?_))
   replace S := S.mono_heap (w' := World.drew _) rfl
   refine Jx (C := fun x w => agree M_2 w) (bf := (fun i => [])) [0, 1, 2, 3, 4, 5, 6, 7, 8] [0, 1, 2, 3, 4, 5, 6, 7, 8] Tryz.mixed (by kernel_rfl) (fun x hq => S.imm) ?_
   refine D_v E rfl rfl rfl (fun w hC => (Qu E rfl)) fun _ E1 => D_v E1 rfl rfl rfl (fun w hC => (Qu E1 rfl)) ?_
   clear E a E1; intro a E
   obtain ⟨x_4, hx_4⟩ : ∃ x, (l0)[k]? = some x := ⟨_, List.getElem?_eq_getElem (by first | omega | (simp; done) | (simp; omega) | (simp_all; omega))⟩
   obtain ⟨p_5, hp_5, qp_5⟩ := h0.at hx_4
   refine D_v E rfl rfl rfl (fun w hC => (QB E rfl rfl T22 hp_5 rfl)) fun _ E1 => D_v E1 rfl rfl rfl (fun w hC => (Qj E1 rfl Tryz.isAgg3 hC qp_5)) fun _ E2 => D_v E2 rfl rfl rfl (fun w hC => (Qu E2 rfl)) fun _ E3 => D_v E3 rfl rfl rfl (fun w hC => (Qu E3 rfl)) ?_
   clear E a E1 E2 E3; intro a E
   obtain ⟨x_6, hx_6⟩ : ∃ x, (l1)[k]? = some x := ⟨_, List.getElem?_eq_getElem (by first | omega | (simp; done) | (simp; omega) | (simp_all; omega))⟩
   obtain ⟨p_7, hp_7, qp_7⟩ := h1.at hx_6
   refine D_v E rfl rfl rfl (fun w hC => (QB E rfl rfl T22 hp_7 rfl)) fun _ E1 => D_v E1 rfl rfl rfl (fun w hC => (Qj E1 rfl Tryz.isAgg3 hC qp_7)) fun _ E2 => D_v E2 rfl rfl rfl (fun w hC => (Yv E2 rfl rfl)) ?_
   clear E a E1 E2; intro a E
   refine Ze (Zd ?_)
   refine T_n ?_
   refine Qn E rfl (fun hc_8 => ?_) (fun hc_8 => ?_)
   ·refine Qb (Qa (S_a E rfl rfl ?_))
    clear E a; intro a E
    refine Qc (T_n (Qe (B_r ?_)))
    refine T_r ?_
    refine T_r ?_
    refine B_r ?_
    refine T_r ?_
    exact Qg E Tryz.results316 rfl ⟨_, rfl, M_2, hM_2, (congrArg Value.bool (by (clear E S; first | exact YH (by omega) | exact (YH (by omega)).symm | exact Ww (by assumption) (by assumption) (by assumption) | exact (Ww (by assumption) (by assumption) (by assumption)).symm | exact Ug (k := k) (by omega) (by assumption) (by omega) | exact (Ug (k := k) (by omega) (by assumption) (by omega)).symm))), S⟩
   ·refine Qh (B_n (T_n (Qa (S_v E rfl (Qq (m := ((k + 1 : Nat) : Int)) E rfl rfl (by omega) (by omega)) rfl fun _ E1 => S_m E1 rfl rfl ?_))))
    clear E a E1; intro a E
    refine Qc (T_n ?_)
    exact ⟨k + 1, ⟨M_2, hM_2, S, E.keep ⟨rfl, rfl, rfl, rfl, trivial⟩, by ((try clear S); (try clear E); first | assumption | omega | rfl | (simp; done) | (simp_all; done) | (simp [List.take_add_one, *]; done) | grind [List.take_add_one]), by ((try clear S); (try clear E); first | assumption | omega | rfl | (simp; done) | (simp_all; done) | (simp [List.take_add_one, *]; done) | grind [List.take_add_one]), by ((try clear S); (try clear E); first | assumption | omega | rfl | (simp; done) | (simp_all; done) | (simp [List.take_add_one, *]; done) | grind [List.take_add_one])⟩, by omega⟩
  ·refine Qt (T_x (T_x (B_x (T_n (Qb (Qa (S_a E rfl rfl ?_)))))))
   clear E a; intro a E
   refine Qc (T_n (Qe ?_))
   exact Qg E Tryz.results316 rfl ⟨_, rfl, M_2, hM_2, (congrArg Value.bool (by (clear E S; first | exact YH (by omega) | exact (YH (by omega)).symm | exact Ww (by assumption) (by assumption) (by assumption) | exact (Ww (by assumption) (by assumption) (by assumption)).symm | exact Ug (k := k) (by omega) (by assumption) (by omega) | exact (Ug (k := k) (by omega) (by assumption) (by omega)).symm))), S⟩
theorem ju {M : Hp} {v0 v1 : Value} {l0 l1 : List Int} (h0 : RdI M v0 l0) (h1 : RdI M v1 l1) :
  Pu Tryz.prog (.func (.func 246) #[] #[]) M [v0, v1] (fun r M' => RdI M' r (ZH l1 l0)) := by
 refine Qk Tryz.func246 rfl Tryz.ntmps246 rfl Tryz.call246 ?_
 intro a w M1 H hM1 S E
 replace h0 := h0.le hM1
 replace h1 := h1.le hM1
 have b0 := h0.bound
 have b1 := h1.bound
 refine Qb (Qa (S_a E rfl rfl fun _ E1 => Qc (T_n (Qb (Qb (Qa (S_m E1 rfl rfl fun _ E2 => S_v E2 rfl (Qp E2 rfl T22 h1.len) rfl fun _ E3 => S_v E3 rfl (Qv E3 rfl rfl) rfl ?_)))))))
 clear E a E1 E2 E3; intro a E
 refine Qc (T_n ?_)
 refine Qn E rfl (fun hc_1 => ?_) (fun hc_1 => ?_)
 ·refine Qb (Qa (S_m E rfl rfl fun _ E1 => S_a E1 rfl rfl ?_))
  clear E a E1; intro a E
  refine Qc (T_n (Qe ?_))
  refine T_r ?_
  exact Qg E Tryz.results246 rfl ⟨_, rfl, M1, (Hp.le.refl _), (by rw [show (ZH l1 l0) = l0 from by (exact YD (by omega))]; exact h0), S⟩
 ·refine Qh (T_n (Qb (Qi ?_)))
  refine Qx (γ := List Int) (fun (p : List Int) a w => ∃ (M_2 : Hp) (u0 : Value), Hp.le M1 M_2 ∧ St w M_2 (H) ∧ Env a 17 [] [(0, u0), (1, v1)] ∧ (ZH l1 p = ZH l1 l0) ∧ RdI M_2 u0 p) (fun p => p.length) l0 ⟨M1, _, Hp.le.refl _, S, E.keep ⟨rfl, rfl, trivial⟩, rfl, (qJ h0 (by rfl))⟩ ?_
  try clear E
  try clear S
  try clear a
  try clear w
  rintro p a w ⟨M_2, u0, hM_2, S, E, hL0_0, hs0_0⟩
  replace h1 := h1.le hM_2
  have hpb := (hs0_0).bound
  refine Qb (Qb (Qa (S_m E rfl rfl fun _ E1 => S_m E1 rfl rfl ?_)))
  clear E a E1; intro a E
  refine S_x (Qr E S rfl rfl rfl (Gm hs0_0 h1) (Hp.le.refl _) ?_)
  clear E a S; rintro a _ w M_3 hM_3 rfl S E
  replace h1 := h1.le hM_3
  replace hs0_0 := hs0_0.le hM_3
  refine Qc (T_n ?_)
  refine QL E rfl (fun hc_4 => ?_) (fun hc_4 => ?_)
  ·have hle9 := YN (by assumption)
   refine Qh (T_n (Qi (Qa (S_m E rfl rfl fun _ E1 => S_m E1 rfl rfl fun _ E2 => S_v E2 rfl (Qp E2 rfl T22 h1.len) rfl ?_))))
   clear E a E1 E2; intro a E
   obtain ⟨v_5, sv_5, hv_5⟩ := hs0_0.subv ((l1).length) ((p).length) (by omega) (by omega)
   simp only [List.take_length] at hv_5
   replace hv_5 : RdI M_3 v_5 ((p).drop ((l1).length)) := hv_5
   refine S_v E rfl (Jq E rfl rfl T22 hs0_0.len sv_5 (by omega)) rfl fun _ E1 => S_a E1 rfl rfl ?_
   clear E a E1; intro a E
   refine Qc (B_n (T_n ?_))
   exact ⟨p.drop l1.length, ⟨M_3, _, (hM_2.trans hM_3), S, E.keep ⟨rfl, rfl, trivial⟩, (by rw [← jM (by omega) (by assumption)]; exact hL0_0), (qJ hv_5 (by rfl))⟩, (by have h9 := YN (by assumption); simp; omega)⟩
  ·refine Qt ?_
   refine T_x (T_x (B_x (T_n (Qb (Qa (S_m E rfl rfl fun _ E1 => S_a E1 rfl rfl ?_))))))
   clear E a E1; intro a E
   refine Qc (T_n (Qe ?_))
   exact Qg E Tryz.results246 rfl ⟨_, rfl, M_3, (hM_2.trans hM_3), (by rw [show (ZH l1 l0) = p from by ((rw [← hL0_0]; first | exact VN (by assumption) | exact (VN (by assumption)).symm | exact YD (by omega) | exact (YD (by omega)).symm))]; exact hs0_0), S⟩
theorem qB {M : Hp} {v0 v1 : Value} {l0 l1 : List Int} (h0 : RdI M v0 l0) (h1 : RdI M v1 l1) (hb : l0.length ≤ 1000000000000) :
  Pu Tryz.prog (.func (.func 169) #[] #[]) M [v0, v1] (fun r M' => RdI M' r (ZH l1 l0)) := by
 refine Qk Tryz.func169 rfl Tryz.ntmps169 rfl Tryz.call169 ?_
 intro a w M1 H hM1 S E
 replace h0 := h0.le hM1
 replace h1 := h1.le hM1
 have b0 := h0.bound
 have b1 := h1.bound
 have htl := trimP_le l1 l0
 refine Qb (Qa (S_a E rfl rfl fun _ E1 => Qc (T_n (Qb (Qa (S_m E1 rfl rfl fun _ E2 => S_m E2 rfl rfl ?_))))))
 clear E a E1 E2; intro a E
 refine S_x (Qr E S rfl rfl rfl (ju h0 h1) (Hp.le.refl _) ?_)
 clear E a S; rintro a v_2 w M_1 hM_1 hv_2 S E
 refine S_x (Vv (p := []) E S rfl rfl rfl (Zz hv_2 (by (first | omega | (simp; omega) | (simp; done) | (simp_all; omega) | grind))) (Hp.le.refl _) ?_)
 clear E a S; rintro a v_4 w M_3 _ hM_3 rfl S E
 replace S : St w M_3 (QR 3 v_4 (ZH l1 l0) :: _) := S
 refine S_a E rfl rfl ?_
 clear E a; intro a E
 refine Qc (T_n (Qe ?_))
 have S0 := S; clear S
 obtain ⟨M_5, hM_5, hz_6, S⟩ := S0.freezeI (by (omega))
 clear S0
 exact Qg E Tryz.results169 rfl ⟨_, rfl, M_5, (hM_1.trans (hM_3.trans hM_5)), hz_6, S⟩
theorem Gl {M : Hp} {v0 v1 : Value} {l0 l1 : List Int} (h0 : RdI M v0 l0) (h1 : RdI M v1 l1) :
  Pu Tryz.prog (.func (.func 317) #[] #[]) M [v0, v1] (fun r M' => r = .bool (Yy l0 l1)) := by
 refine Qk Tryz.func317 rfl Tryz.ntmps317 rfl Tryz.call317 ?_
 intro a w M1 H hM1 S E
 replace h0 := h0.le hM1
 replace h1 := h1.le hM1
 have b0 := h0.bound
 have b1 := h1.bound
 refine Qb (Qa (S_a E rfl rfl fun _ E1 => Qc (T_n (Qb (Qb (Qa (S_m E1 rfl rfl fun _ E2 => S_v E2 rfl (Qp E2 rfl T22 h0.len) rfl fun _ E3 => S_m E3 rfl rfl fun _ E4 => S_v E4 rfl (Qp E4 rfl T22 h1.len) rfl fun _ E5 => S_v E5 rfl (QG E5 rfl rfl) rfl ?_)))))))
 clear E a E1 E2 E3 E4 E5; intro a E
 refine Qc (T_n ?_)
 refine Qn E rfl (fun hc_1 => ?_) (fun hc_1 => ?_)
 ·refine Qb (Qa (S_a E rfl rfl ?_))
  clear E a; intro a E
  refine Qc (T_n (Qe ?_))
  refine T_r ?_
  exact Qg E Tryz.results317 rfl ⟨_, rfl, M1, (Hp.le.refl _), (congrArg Value.bool (by (clear E S; first | exact YG (by omega) | exact (YG (by omega)).symm | exact Wv (by assumption) (by assumption) (by assumption) | exact (Wv (by assumption) (by assumption) (by assumption)).symm | exact Uf (by omega) (fun j x y hx hy => hL0_2 j x y (by have := (List.getElem?_eq_some_iff.1 hy).1; omega) hx hy) | exact (Uf (by omega) (fun j x y hx hy => hL0_2 j x y (by have := (List.getElem?_eq_some_iff.1 hy).1; omega) hx hy)).symm))), S⟩
 ·refine Qh (T_n (Qb (Qb (Qa (S_m E rfl rfl fun _ E1 => S_v E1 rfl (Qp E1 rfl T22 h1.len) rfl fun _ E2 => S_m E2 rfl rfl ?_)))))
  clear E a E1 E2; intro a E
  refine Qc (T_n (Qi ?_))
  refine Qx (γ := Nat) (fun (k : Nat) a w => ∃ (M_2 : Hp), Hp.le M1 M_2 ∧ St w M_2 (H) ∧ Env a 32 [] [(0, v0), (1, v1), (12, .int .i64 (((l1).length : Nat) : Int)), (13, .int .i64 ((k : Nat) : Int))] ∧ (k ≤ (l1).length) ∧ (l1.length ≤ l0.length) ∧ (∀ j x y, j < k → l0[l0.length - l1.length + j]? = some x → l1[j]? = some y → x = y)) (fun k => ((l1).length) - k) 0 ⟨M1, Hp.le.refl _, S, E.keep ⟨rfl, rfl, rfl, rfl, trivial⟩, by ((try clear S); (try clear E); first | assumption | omega | rfl | (simp; done) | (simp_all; done) | (simp [List.take_add_one, *]; done) | grind [List.take_add_one]), by ((try clear S); (try clear E); first | assumption | omega | rfl | (simp; done) | (simp_all; done) | (simp [List.take_add_one, *]; done) | grind [List.take_add_one]), by ((try clear S); (try clear E); first | assumption | omega | rfl | (simp; done) | (simp_all; done) | (simp [List.take_add_one, *]; done) | grind [List.take_add_one])⟩ ?_
  try clear E
  try clear S
  try clear a
  try clear w
  rintro k a w ⟨M_2, hM_2, S, E, hL0_0, hL0_1, hL0_2⟩
  replace h0 := h0.le hM_2
  replace h1 := h1.le hM_2
  refine Qb (Qa (S_v E rfl (QG E rfl rfl) rfl ?_))
  clear E a; intro a E
  refine Qc (T_n (Qb ?_))
  refine Qn E rfl (fun hc_3 => ?_) (fun hc_3 => ?_)
  ·refine Qh (T_n (Qb (Qi (Qb (Qa (S_m E rfl rfl fun _ E1 => S_a E1 rfl rfl ?_))))))
   clear E a E1; intro a E
   refine Qc (T_n (Qb ?_))
   replace S := S.mono_heap (w' := World.drew _) rfl
   refine Jx (C := fun x w => agree M_2 w) (bf := (fun i => [])) [0, 1, 2, 3, 4, 5, 6, 7, 8, 9, 10, 11, 12, 13, 14] [0, 1, 2, 3, 4, 5, 6, 7, 8, 9, 10, 11, 12, 13, 14] Tryz.mixed (by kernel_rfl) (fun x hq => S.imm) ?_
   refine D_v E rfl rfl rfl (fun w hC => (Qu E rfl)) fun _ E1 => D_v E1 rfl rfl rfl (fun w hC => (Qu E1 rfl)) fun _ E2 => D_v E2 rfl rfl rfl (fun w hC => (Qp E2 rfl T22 h0.len)) fun _ E3 => D_v E3 rfl rfl rfl (fun w hC => (Qu E3 rfl)) fun _ E4 => D_v E4 rfl rfl rfl (fun w hC => (Qp E4 rfl T22 h1.len)) fun _ E5 => D_v E5 rfl rfl rfl (fun w hC => (Jg (m := (((l0).length - ((l1).length) : Nat) : Int)) E5 rfl rfl (by omega) (by omega))) ?_
   clear E a E1 E2 E3 E4 E5; intro a E
   refine D_v E rfl rfl rfl (fun w hC => (Qu E rfl)) fun _ E1 => D_v E1 rfl rfl rfl (fun w hC => (Qq (m := (((l0).length - ((l1).length) + k : Nat) : Int)) E1 rfl rfl (by omega) (by omega))) ?_
   clear E a E1; intro a E
   obtain ⟨x_4, hx_4⟩ : ∃ x, (l0)[(l0).length - ((l1).length) + k]? = some x := ⟨_, List.getElem?_eq_getElem (by first | omega | (simp; done) | (simp; omega) | (simp_all; omega))⟩
   obtain ⟨p_5, hp_5, qp_5⟩ := h0.at hx_4
   refine D_v E rfl rfl rfl (fun w hC => (QB E rfl rfl T22 hp_5 rfl)) fun _ E1 => D_v E1 rfl rfl rfl (fun w hC => (Qj E1 rfl Tryz.isAgg3 hC qp_5)) fun _ E2 => D_v E2 rfl rfl rfl (fun w hC => (Qu E2 rfl)) fun _ E3 => D_v E3 rfl rfl rfl (fun w hC => (Qu E3 rfl)) ?_
   clear E a E1 E2 E3; intro a E
   obtain ⟨x_6, hx_6⟩ : ∃ x, (l1)[k]? = some x := ⟨_, List.getElem?_eq_getElem (by first | omega | (simp; done) | (simp; omega) | (simp_all; omega))⟩
   obtain ⟨p_7, hp_7, qp_7⟩ := h1.at hx_6
   refine D_v E rfl rfl rfl (fun w hC => (QB E rfl rfl T22 hp_7 rfl)) fun _ E1 => D_v E1 rfl rfl rfl (fun w hC => (Qj E1 rfl Tryz.isAgg3 hC qp_7)) fun _ E2 => D_v E2 rfl rfl rfl (fun w hC => (Yv E2 rfl rfl)) ?_
   clear E a E1 E2; intro a E
   refine Ze (Zd ?_)
   refine T_n ?_
   refine Qn E rfl (fun hc_8 => ?_) (fun hc_8 => ?_)
   ·refine Qb (Qa (S_a E rfl rfl ?_))
    clear E a; intro a E
    refine Qc (T_n (Qe (B_r ?_)))
    refine T_r ?_
    refine T_r ?_
    refine B_r ?_
    refine T_r ?_
    exact Qg E Tryz.results317 rfl ⟨_, rfl, M_2, hM_2, (congrArg Value.bool (by (clear E S; first | exact YG (by omega) | exact (YG (by omega)).symm | exact Wv (by assumption) (by assumption) (by assumption) | exact (Wv (by assumption) (by assumption) (by assumption)).symm | exact Uf (by omega) (fun j x y hx hy => hL0_2 j x y (by have := (List.getElem?_eq_some_iff.1 hy).1; omega) hx hy) | exact (Uf (by omega) (fun j x y hx hy => hL0_2 j x y (by have := (List.getElem?_eq_some_iff.1 hy).1; omega) hx hy)).symm))), S⟩
   ·refine Qh (B_n (T_n (Qa (S_v E rfl (Qq (m := ((k + 1 : Nat) : Int)) E rfl rfl (by omega) (by omega)) rfl fun _ E1 => S_m E1 rfl rfl ?_))))
    clear E a E1; intro a E
    refine Qc (T_n ?_)
    exact ⟨k + 1, ⟨M_2, hM_2, S, E.keep ⟨rfl, rfl, rfl, rfl, trivial⟩, by ((try clear S); (try clear E); first | assumption | omega | rfl | (simp; done) | (simp_all; done) | (simp [List.take_add_one, *]; done) | grind [List.take_add_one]), by ((try clear S); (try clear E); first | assumption | omega | rfl | (simp; done) | (simp_all; done) | (simp [List.take_add_one, *]; done) | grind [List.take_add_one]), by ((try clear S); (try clear E); first | assumption | omega | rfl | (simp; done) | (simp_all; done) | (simp [List.take_add_one, *]; done) | grind [List.take_add_one])⟩, by omega⟩
  ·refine Qt (T_x (T_x (B_x (T_n (Qb (Qa (S_a E rfl rfl ?_)))))))
   clear E a; intro a E
   refine Qc (T_n (Qe ?_))
   exact Qg E Tryz.results317 rfl ⟨_, rfl, M_2, hM_2, (congrArg Value.bool (by (clear E S; first | exact YG (by omega) | exact (YG (by omega)).symm | exact Wv (by assumption) (by assumption) (by assumption) | exact (Wv (by assumption) (by assumption) (by assumption)).symm | exact Uf (by omega) (fun j x y hx hy => hL0_2 j x y (by have := (List.getElem?_eq_some_iff.1 hy).1; omega) hx hy) | exact (Uf (by omega) (fun j x y hx hy => hL0_2 j x y (by have := (List.getElem?_eq_some_iff.1 hy).1; omega) hx hy)).symm))), S⟩
theorem js {M : Hp} {v0 v1 : Value} {l0 l1 : List Int} (h0 : RdI M v0 l0) (h1 : RdI M v1 l1) :
  Pu Tryz.prog (.func (.func 247) #[] #[]) M [v0, v1] (fun r M' => RdI M' r (trimS l1 l0)) := by
 refine Qk Tryz.func247 rfl Tryz.ntmps247 rfl Tryz.call247 ?_
 intro a w M1 H hM1 S E
 replace h0 := h0.le hM1
 replace h1 := h1.le hM1
 have b0 := h0.bound
 have b1 := h1.bound
 refine Qb (Qa (S_a E rfl rfl fun _ E1 => Qc (T_n (Qb (Qb (Qa (S_m E1 rfl rfl fun _ E2 => S_v E2 rfl (Qp E2 rfl T22 h1.len) rfl fun _ E3 => S_v E3 rfl (Qv E3 rfl rfl) rfl ?_)))))))
 clear E a E1 E2 E3; intro a E
 refine Qc (T_n ?_)
 refine Qn E rfl (fun hc_1 => ?_) (fun hc_1 => ?_)
 ·refine Qb (Qa (S_m E rfl rfl fun _ E1 => S_a E1 rfl rfl ?_))
  clear E a E1; intro a E
  refine Qc (T_n (Qe ?_))
  refine T_r ?_
  exact Qg E Tryz.results247 rfl ⟨_, rfl, M1, (Hp.le.refl _), (by rw [show (trimS l1 l0) = l0 from by (exact YC (by omega))]; exact h0), S⟩
 ·refine Qh (T_n (Qb (Qi ?_)))
  refine Qx (γ := List Int) (fun (p : List Int) a w => ∃ (M_2 : Hp) (u0 : Value), Hp.le M1 M_2 ∧ St w M_2 (H) ∧ Env a 20 [] [(0, u0), (1, v1)] ∧ (trimS l1 p = trimS l1 l0) ∧ RdI M_2 u0 p) (fun p => p.length) l0 ⟨M1, _, Hp.le.refl _, S, E.keep ⟨rfl, rfl, trivial⟩, rfl, (qJ h0 (by rfl))⟩ ?_
  try clear E
  try clear S
  try clear a
  try clear w
  rintro p a w ⟨M_2, u0, hM_2, S, E, hL0_0, hs0_0⟩
  replace h1 := h1.le hM_2
  have hpb := (hs0_0).bound
  refine Qb (Qb (Qa (S_m E rfl rfl fun _ E1 => S_m E1 rfl rfl ?_)))
  clear E a E1; intro a E
  refine S_x (Qr E S rfl rfl rfl (Gl hs0_0 h1) (Hp.le.refl _) ?_)
  clear E a S; rintro a _ w M_3 hM_3 rfl S E
  replace h1 := h1.le hM_3
  replace hs0_0 := hs0_0.le hM_3
  refine Qc (T_n ?_)
  refine QL E rfl (fun hc_4 => ?_) (fun hc_4 => ?_)
  ·have hle9 := Yi (by assumption)
   refine Qh (T_n (Qi (Qa (S_m E rfl rfl fun _ E1 => S_m E1 rfl rfl fun _ E2 => S_v E2 rfl (Qp E2 rfl T22 hs0_0.len) rfl fun _ E3 => S_m E3 rfl rfl fun _ E4 => S_v E4 rfl (Qp E4 rfl T22 h1.len) rfl fun _ E5 => S_v E5 rfl (Jg (m := (((p).length - ((l1).length) : Nat) : Int)) E5 rfl rfl (by omega) (by omega)) rfl ?_))))
   clear E a E1 E2 E3 E4 E5; intro a E
   obtain ⟨v_5, sv_5, hv_5⟩ := hs0_0.subv 0 ((p).length - ((l1).length)) (by have h9 := Yi (by assumption); omega) (by have h9 := Yi (by assumption); omega)
   simp only [List.drop_zero] at hv_5
   replace hv_5 : RdI M_3 v_5 ((p).take ((p).length - ((l1).length))) := hv_5
   refine S_v E rfl (Jd E rfl rfl T22 sv_5 (by omega)) rfl fun _ E1 => S_a E1 rfl rfl ?_
   clear E a E1; intro a E
   refine Qc (B_n (T_n ?_))
   exact ⟨p.take (p.length - l1.length), ⟨M_3, _, (hM_2.trans hM_3), S, E.keep ⟨rfl, rfl, trivial⟩, (by rw [← jK (by omega) (by assumption)]; exact hL0_0), (qJ hv_5 (by rfl))⟩, (by have h9 := Yi (by assumption); simp; omega)⟩
  ·refine Qt ?_
   refine T_x (T_x (B_x (T_n (Qb (Qa (S_m E rfl rfl fun _ E1 => S_a E1 rfl rfl ?_))))))
   clear E a E1; intro a E
   refine Qc (T_n (Qe ?_))
   exact Qg E Tryz.results247 rfl ⟨_, rfl, M_3, (hM_2.trans hM_3), (by rw [show (trimS l1 l0) = p from by ((rw [← hL0_0]; first | exact VM (by assumption) | exact (VM (by assumption)).symm | exact YC (by omega) | exact (YC (by omega)).symm))]; exact hs0_0), S⟩
theorem qA {M : Hp} {v0 v1 : Value} {l0 l1 : List Int} (h0 : RdI M v0 l0) (h1 : RdI M v1 l1) (hb : l0.length ≤ 1000000000000) :
  Pu Tryz.prog (.func (.func 170) #[] #[]) M [v0, v1] (fun r M' => RdI M' r (trimS l1 l0)) := by
 refine Qk Tryz.func170 rfl Tryz.ntmps170 rfl Tryz.call170 ?_
 intro a w M1 H hM1 S E
 replace h0 := h0.le hM1
 replace h1 := h1.le hM1
 have b0 := h0.bound
 have b1 := h1.bound
 have htl := trimS_le l1 l0
 refine Qb (Qa (S_a E rfl rfl fun _ E1 => Qc (T_n (Qb (Qa (S_m E1 rfl rfl fun _ E2 => S_m E2 rfl rfl ?_))))))
 clear E a E1 E2; intro a E
 refine S_x (Qr E S rfl rfl rfl (js h0 h1) (Hp.le.refl _) ?_)
 clear E a S; rintro a v_2 w M_1 hM_1 hv_2 S E
 refine S_x (Vv (p := []) E S rfl rfl rfl (Zz hv_2 (by (first | omega | (simp; omega) | (simp; done) | (simp_all; omega) | grind))) (Hp.le.refl _) ?_)
 clear E a S; rintro a v_4 w M_3 _ hM_3 rfl S E
 replace S : St w M_3 (QR 3 v_4 (trimS l1 l0) :: _) := S
 refine S_a E rfl rfl ?_
 clear E a; intro a E
 refine Qc (T_n (Qe ?_))
 have S0 := S; clear S
 obtain ⟨M_5, hM_5, hz_6, S⟩ := S0.freezeI (by (omega))
 clear S0
 exact Qg E Tryz.results170 rfl ⟨_, rfl, M_5, (hM_1.trans (hM_3.trans hM_5)), hz_6, S⟩
theorem yJ {M : Hp} {v0 v1 : Value} {l0 l1 : List Int} (h0 : RdI M v0 l0) (h1 : RdI M v1 l1) (hb : l0.length ≤ 1000000000000) :
  Pu Tryz.prog (.func (.func 248) #[] #[]) M [v0, v1] (fun r M' => ∃ t0, r = .tuple #[t0, .bool (Yz l0 l1)] ∧ RdI M' t0 (VD l0 l1)) := by
 refine Qk Tryz.func248 rfl Tryz.ntmps248 rfl Tryz.call248 ?_
 intro a w M1 H hM1 S E
 replace h0 := h0.le hM1
 replace h1 := h1.le hM1
 have b0 := h0.bound
 have b1 := h1.bound
 have hcl := GW l0 l1
 refine Qb (Qa (S_a E rfl rfl fun _ E1 => S_a E1 rfl rfl fun _ E2 => Qc (T_n (Qb (Qb (Qa (S_m E2 rfl rfl fun _ E3 => S_m E3 rfl rfl ?_)))))))
 clear E a E1 E2 E3; intro a E
 refine S_x (Qr E S rfl rfl rfl (Gm h0 h1) (Hp.le.refl _) ?_)
 clear E a S; rintro a _ w M_1 hM_1 rfl S E
 replace h0 := h0.le hM_1
 replace h1 := h1.le hM_1
 refine Qc (T_n ?_)
 refine QL E rfl (fun hc_2 => ?_) (fun hc_2 => ?_)
 ·have hle := YN (l := l0) (m := l1) (by assumption)
  refine Qb (Qa (S_m E rfl rfl fun _ E1 => S_m E1 rfl rfl fun _ E2 => S_v E2 rfl (Qp E2 rfl T22 h1.len) rfl ?_))
  clear E a E1 E2; intro a E
  obtain ⟨v_3, sv_3, hv_3⟩ := h0.subv ((l1).length) ((l0).length) (by omega) (by omega)
  simp only [List.take_length] at hv_3
  replace hv_3 : RdI M_1 v_3 ((l0).drop ((l1).length)) := hv_3
  refine S_v E rfl (Jq E rfl rfl T22 h0.len sv_3 (by omega)) rfl fun _ E1 => S_a E1 rfl rfl fun _ E2 => S_a E2 rfl rfl ?_
  clear E a E1 E2; intro a E
  refine Qc (T_n (Qe ?_))
  refine T_r ?_
  exact Jt E Tryz.results248 rfl rfl ⟨_, rfl, M_1, hM_1, ⟨_, (by (rw [show Yz l0 l1 = true by assumption])), (RdS.eqL hv_3 (by (unfold VD; (rw [show Yz l0 l1 = true by assumption]); first | rfl | simp)))⟩, S⟩
 ·refine Qh ?_
  refine T_n (Qb (Qa (S_m E rfl rfl fun _ E1 => S_a E1 rfl rfl fun _ E2 => S_a E2 rfl rfl ?_)))
  clear E a E1 E2; intro a E
  refine Qc (T_n (Qe ?_))
  exact Jt E Tryz.results248 rfl rfl ⟨_, rfl, M_1, hM_1, ⟨_, (by (rw [show Yz l0 l1 = false by assumption])), (by rw [show (VD l0 l1) = l0 from by (unfold VD; (rw [show Yz l0 l1 = false by assumption]); first | rfl | simp)]; exact h0)⟩, S⟩
theorem zO {M : Hp} {v0 v1 : Value} {l0 l1 : List Int} (h0 : RdI M v0 l0) (h1 : RdI M v1 l1) (hb : l0.length ≤ 1000000000000) :
  Pu Tryz.prog (.func (.func 171) #[] #[]) M [v0, v1] (fun r M' => ∃ t0, r = .tuple #[t0, .bool (Yz l0 l1)] ∧ RdI M' t0 (VD l0 l1)) := by
 refine Qk Tryz.func171 rfl Tryz.ntmps171 rfl Tryz.call171 ?_
 intro a w M1 H hM1 S E
 replace h0 := h0.le hM1
 replace h1 := h1.le hM1
 have b0 := h0.bound
 have b1 := h1.bound
 have hcl := GW l0 l1
 refine Qb (Qa (S_a E rfl rfl fun _ E1 => S_a E1 rfl rfl fun _ E2 => Qc (T_n (Qb (Qa (S_m E2 rfl rfl fun _ E3 => S_m E3 rfl rfl ?_))))))
 clear E a E1 E2 E3; intro a E
 refine S_x (Qr E S rfl rfl rfl (yJ h0 h1 (by (omega))) (Hp.le.refl _) ?_)
 clear E a S; rintro a _ w M_1 hM_1 ⟨v_2, rfl, hv_2⟩ S E
 refine S_m E rfl rfl fun _ E1 => S_v E1 rfl (Qm E1 rfl rfl) rfl fun _ E2 => S_v E2 rfl (Qm E2 rfl rfl) rfl fun _ E3 => S_a E3 rfl rfl fun _ E4 => S_a E4 rfl rfl fun _ E5 => Qc (T_n (Qb (Qa (S_m E5 rfl rfl ?_))))
 clear E a E1 E2 E3 E4 E5; intro a E
 refine S_x (Vv (p := []) E S rfl rfl rfl (Zz hv_2 (by (first | omega | (simp; omega) | (simp; done) | (simp_all; omega) | grind))) (Hp.le.refl _) ?_)
 clear E a S; rintro a v_4 w M_3 _ hM_3 rfl S E
 replace S : St w M_3 (QR 3 v_4 (VD l0 l1) :: _) := S
 refine S_m E rfl rfl fun _ E1 => S_a E1 rfl rfl fun _ E2 => S_a E2 rfl rfl ?_
 clear E a E1 E2; intro a E
 refine Qc (T_n (Qe ?_))
 have S0 := S; clear S
 obtain ⟨M_5, hM_5, hz_6, S⟩ := S0.freezeI (by (omega))
 clear S0
 exact Jt E Tryz.results171 rfl rfl ⟨_, rfl, M_5, (hM_1.trans (hM_3.trans hM_5)), ⟨_, (by rfl), hz_6⟩, S⟩
theorem yI {M : Hp} {v0 v1 : Value} {l0 l1 : List Int} (h0 : RdI M v0 l0) (h1 : RdI M v1 l1) (hb : l0.length ≤ 1000000000000) :
  Pu Tryz.prog (.func (.func 249) #[] #[]) M [v0, v1] (fun r M' => ∃ t0, r = .tuple #[t0, .bool (Yy l0 l1)] ∧ RdI M' t0 (VC l0 l1)) := by
 refine Qk Tryz.func249 rfl Tryz.ntmps249 rfl Tryz.call249 ?_
 intro a w M1 H hM1 S E
 replace h0 := h0.le hM1
 replace h1 := h1.le hM1
 have b0 := h0.bound
 have b1 := h1.bound
 have hcl := GV l0 l1
 refine Qb (Qa (S_a E rfl rfl fun _ E1 => S_a E1 rfl rfl fun _ E2 => Qc (T_n (Qb (Qb (Qa (S_m E2 rfl rfl fun _ E3 => S_m E3 rfl rfl ?_)))))))
 clear E a E1 E2 E3; intro a E
 refine S_x (Qr E S rfl rfl rfl (Gl h0 h1) (Hp.le.refl _) ?_)
 clear E a S; rintro a _ w M_1 hM_1 rfl S E
 replace h0 := h0.le hM_1
 replace h1 := h1.le hM_1
 refine Qc (T_n ?_)
 refine QL E rfl (fun hc_2 => ?_) (fun hc_2 => ?_)
 ·have hle := Yi (l := l0) (m := l1) (by assumption)
  refine Qb (Qa (S_m E rfl rfl fun _ E1 => S_m E1 rfl rfl fun _ E2 => S_v E2 rfl (Qp E2 rfl T22 h0.len) rfl fun _ E3 => S_m E3 rfl rfl fun _ E4 => S_v E4 rfl (Qp E4 rfl T22 h1.len) rfl fun _ E5 => S_v E5 rfl (Jg (m := (((l0).length - ((l1).length) : Nat) : Int)) E5 rfl rfl (by omega) (by omega)) rfl ?_))
  clear E a E1 E2 E3 E4 E5; intro a E
  obtain ⟨v_3, sv_3, hv_3⟩ := h0.subv 0 ((l0).length - ((l1).length)) (by omega) (by omega)
  simp only [List.drop_zero] at hv_3
  replace hv_3 : RdI M_1 v_3 ((l0).take ((l0).length - ((l1).length))) := hv_3
  refine S_v E rfl (Jd E rfl rfl T22 sv_3 (by omega)) rfl fun _ E1 => S_a E1 rfl rfl fun _ E2 => S_a E2 rfl rfl ?_
  clear E a E1 E2; intro a E
  refine Qc (T_n (Qe ?_))
  refine T_r ?_
  exact Jt E Tryz.results249 rfl rfl ⟨_, rfl, M_1, hM_1, ⟨_, (by (rw [show Yy l0 l1 = true by assumption])), (RdS.eqL hv_3 (by (unfold VC; (rw [show Yy l0 l1 = true by assumption]); first | rfl | simp)))⟩, S⟩
 ·refine Qh ?_
  refine T_n (Qb (Qa (S_m E rfl rfl fun _ E1 => S_a E1 rfl rfl fun _ E2 => S_a E2 rfl rfl ?_)))
  clear E a E1 E2; intro a E
  refine Qc (T_n (Qe ?_))
  exact Jt E Tryz.results249 rfl rfl ⟨_, rfl, M_1, hM_1, ⟨_, (by (rw [show Yy l0 l1 = false by assumption])), (by rw [show (VC l0 l1) = l0 from by (unfold VC; (rw [show Yy l0 l1 = false by assumption]); first | rfl | simp)]; exact h0)⟩, S⟩
theorem zN {M : Hp} {v0 v1 : Value} {l0 l1 : List Int} (h0 : RdI M v0 l0) (h1 : RdI M v1 l1) (hb : l0.length ≤ 1000000000000) :
  Pu Tryz.prog (.func (.func 172) #[] #[]) M [v0, v1] (fun r M' => ∃ t0, r = .tuple #[t0, .bool (Yy l0 l1)] ∧ RdI M' t0 (VC l0 l1)) := by
 refine Qk Tryz.func172 rfl Tryz.ntmps172 rfl Tryz.call172 ?_
 intro a w M1 H hM1 S E
 replace h0 := h0.le hM1
 replace h1 := h1.le hM1
 have b0 := h0.bound
 have b1 := h1.bound
 have hcl := GV l0 l1
 refine Qb (Qa (S_a E rfl rfl fun _ E1 => S_a E1 rfl rfl fun _ E2 => Qc (T_n (Qb (Qa (S_m E2 rfl rfl fun _ E3 => S_m E3 rfl rfl ?_))))))
 clear E a E1 E2 E3; intro a E
 refine S_x (Qr E S rfl rfl rfl (yI h0 h1 (by (omega))) (Hp.le.refl _) ?_)
 clear E a S; rintro a _ w M_1 hM_1 ⟨v_2, rfl, hv_2⟩ S E
 refine S_m E rfl rfl fun _ E1 => S_v E1 rfl (Qm E1 rfl rfl) rfl fun _ E2 => S_v E2 rfl (Qm E2 rfl rfl) rfl fun _ E3 => S_a E3 rfl rfl fun _ E4 => S_a E4 rfl rfl fun _ E5 => Qc (T_n (Qb (Qa (S_m E5 rfl rfl ?_))))
 clear E a E1 E2 E3 E4 E5; intro a E
 refine S_x (Vv (p := []) E S rfl rfl rfl (Zz hv_2 (by (first | omega | (simp; omega) | (simp; done) | (simp_all; omega) | grind))) (Hp.le.refl _) ?_)
 clear E a S; rintro a v_4 w M_3 _ hM_3 rfl S E
 replace S : St w M_3 (QR 3 v_4 (VC l0 l1) :: _) := S
 refine S_m E rfl rfl fun _ E1 => S_a E1 rfl rfl fun _ E2 => S_a E2 rfl rfl ?_
 clear E a E1 E2; intro a E
 refine Qc (T_n (Qe ?_))
 have S0 := S; clear S
 obtain ⟨M_5, hM_5, hz_6, S⟩ := S0.freezeI (by (omega))
 clear S0
 exact Jt E Tryz.results172 rfl rfl ⟨_, rfl, M_5, (hM_1.trans (hM_3.trans hM_5)), ⟨_, (by rfl), hz_6⟩, S⟩
theorem lo_Without {M : Hp} {v0 v1 : Value} {l0 l1 : List Int} (h0 : RdI M v0 l0) (h1 : RdI M v1 l1) (hb : l0.length ≤ 1000000000000) :
  Pu Tryz.prog (.func (.func 250) #[] #[]) M [v0, v1] (fun r M' => RdI M' r ((l0).filter (fun x => !decide (x ∈ l1)))) := by
 refine Qk Tryz.func250 rfl Tryz.ntmps250 rfl Tryz.call250 ?_
 intro a w M1 H hM1 S E
 replace h0 := h0.le hM1
 replace h1 := h1.le hM1
 have b0 := h0.bound
 refine Qb (Qa (S_a E rfl rfl fun _ E1 => Qc (T_n (Qb (Qa (S_m E1 rfl rfl ?_))))))
 clear E a E1; intro a E
 refine S_x (Vv (p := []) E S rfl rfl rfl (ZO h1) (Hp.le.refl _) ?_)
 clear E a S; rintro a _ w M_1 _ hM_1 ⟨v_2, rfl, rfl⟩ S E
 replace S : St w M_1 (Zs v_2 (QC l1) :: _) := S
 replace h0 := h0.le hM_1
 refine S_a E rfl rfl fun _ E1 => Qc (T_n (Qb (Qa (S_m E1 rfl rfl fun _ E2 => S_v E2 rfl (Qp E2 rfl T22 h0.len) rfl ?_))))
 clear E a E1 E2; intro a E
 refine S_x (Jf (k := (l0).length) E S rfl rfl rfl T22 rfl (by omega) (by omega) (by omega) ?_)
 clear E a S; rintro a w v_3 E S
 replace S := S.made0
 refine S_a E rfl rfl fun _ E1 => Qc (T_n (Qb (Qb (Qa (S_m E1 rfl rfl fun _ E2 => S_v E2 rfl (Qp E2 rfl T22 h0.len) rfl fun _ E3 => S_m E3 rfl rfl ?_)))))
 clear E a E1 E2 E3; intro a E
 refine Qc (T_n (Qi ?_))
 replace S := S.re1 (l' := (l0.take 0).filter (fun x => !decide (x ∈ QC l1))) (by ((simp; done)))
 refine Qx (γ := Nat) (fun (k : Nat) a w => ∃ (M_4 : Hp) (u6 : Value), Hp.le M_1 M_4 ∧ St w M_4 (QR 3 u6 ((l0.take k).filter (fun x => !decide (x ∈ QC l1))) :: Zs v_2 (QC l1) :: H) ∧ Env a 40 [] [(0, v0), (5, .map (some v_2)), (6, u6), (16, .int .i64 (((l0).length : Nat) : Int)), (17, .int .i64 ((k : Nat) : Int))] ∧ (k ≤ (l0).length)) (fun k => ((l0).length) - k) 0 ⟨M_1, _, Hp.le.refl _, S, E.keep ⟨rfl, rfl, rfl, rfl, rfl, trivial⟩, by (omega)⟩ ?_
 try clear E
 try clear S
 try clear a
 try clear w
 rintro k a w ⟨M_4, u6, hM_4, S, E, hL0_0⟩
 replace h0 := h0.le hM_4
 have wl := List.length_filter_le (fun x => !decide (x ∈ QC l1)) (l0.take k)
 refine Qb (Qa (S_v E rfl (QG E rfl rfl) rfl ?_))
 clear E a; intro a E
 refine Qc (T_n (Qb ?_))
 refine Qn E rfl (fun hc_5 => ?_) (fun hc_5 => ?_)
 ·refine Qh (T_n (Qb (Qi (Qb (Qa (S_m E rfl rfl fun _ E1 => S_a E1 rfl rfl fun _ E2 => Qc (T_n (Qb (Qa (S_m E2 rfl rfl fun _ E3 => S_m E3 rfl rfl fun _ E4 => S_m E4 rfl rfl ?_))))))))))
  clear E a E1 E2 E3 E4; intro a E
  obtain ⟨x_6, hx_6⟩ : ∃ x, (l0)[k]? = some x := ⟨_, List.getElem?_eq_getElem (by omega)⟩
  obtain ⟨p_7, hp_7, qp_7⟩ := h0.at hx_6
  refine S_v E rfl (QB E rfl rfl T22 hp_7 rfl) rfl fun _ E1 => S_v E1 rfl (Qj E1 rfl Tryz.isAgg3 S.imm qp_7) rfl ?_
  clear E a E1; intro a E
  replace S := S.front1
  refine S_x (ZF E S rfl Yg rfl rfl ?_)
  clear E a S; rintro a w E S
  replace S : St w M_4 (Zs v_2 (QC l1) :: _) := S
  refine S_m E rfl rfl fun _ E1 => S_v E1 rfl (Qm E1 rfl rfl) rfl fun _ E2 => S_v E2 rfl (Qm E2 rfl rfl) rfl ?_
  clear E a E1 E2; intro a E
  refine S_x (Jp (cs := #[]) E S rfl Tryz.zeroValue117 rfl ?_)
  clear E a S; rintro a w b_8 E S
  refine Zr (Jz (us := []) E S rfl rfl (Tryz.sizeOf117 _) rfl (by intro u hu; cases hu) ?_)
  clear E a S; rintro a w E S
  replace S : St w M_4 (blk b_8 (.cells #[] 117) :: _) := S
  have S0 := S; clear S
  obtain ⟨M_9, hM_9, hb_10, S⟩ := S0.freezeB
  clear S0
  replace h0 := h0.le hM_9
  refine S_a E rfl rfl fun _ E1 => Qc (T_n (Qb (Qa (S_m E1 rfl rfl fun _ E2 => S_v E2 rfl (Zk E2 rfl) rfl ?_))))
  clear E a E1 E2; intro a E
  refine Qc (T_n ?_)
  refine QL E rfl (fun hc_11 => ?_) (fun hc_11 => ?_)
  ·refine Qa ?_
   refine S_m E rfl rfl fun _ E1 => S_m E1 rfl rfl fun _ E2 => S_m E2 rfl rfl ?_
   clear E a E1 E2; intro a E
   obtain ⟨p_12, hp_12, qp_12⟩ := h0.at hx_6
   refine S_v E rfl (QB E rfl rfl T22 hp_12 rfl) rfl fun _ E1 => S_v E1 rfl (Qj E1 rfl Tryz.isAgg3 S.imm qp_12) rfl ?_
   clear E a E1; intro a E
   refine S_x (Qy (ys := [x_6]) E S rfl T22 rfl rfl rfl ?_)
   clear E a S; rintro a w v_13 E S
   replace S := S.front2
   replace S := S.front1
   refine S_x (QH (xs := (l0.take k).filter (fun x => !decide (x ∈ QC l1))) (ys := [x_6]) E S rfl rfl rfl T22 (by (simp at wl ⊢; omega)) ?_)
   clear E a S; rintro a w v_14 E S
   refine S_a E rfl rfl fun _ E1 => Qc (B_n (T_n (Qa (S_v E1 rfl (Qq (m := ((k + 1 : Nat) : Int)) E1 rfl rfl (by omega) (by omega)) rfl fun _ E2 => S_m E2 rfl rfl ?_))))
   clear E a E1 E2; intro a E
   refine Qc (T_n ?_)
   replace S := S.re1 (l' := (l0.take (k + 1)).filter (fun x => !decide (x ∈ QC l1))) (by ((rw [Zh (by assumption)]; first | (simp [*]; done) | (simp_all; done))))
   exact ⟨k + 1, ⟨M_9, _, (hM_4.trans hM_9), S, E.keep ⟨rfl, rfl, rfl, rfl, rfl, trivial⟩, by (omega)⟩, by omega⟩
  ·refine Qh ?_
   refine B_n (T_n (Qa (S_v E rfl (Qq (m := ((k + 1 : Nat) : Int)) E rfl rfl (by omega) (by omega)) rfl fun _ E1 => S_m E1 rfl rfl ?_)))
   clear E a E1; intro a E
   refine Qc (T_n ?_)
   replace S := S.front1
   replace S := S.re1 (l' := (l0.take (k + 1)).filter (fun x => !decide (x ∈ QC l1))) (by ((rw [Zh (by assumption)]; first | (simp [*]; done) | (simp_all; done))))
   exact ⟨k + 1, ⟨M_9, _, (hM_4.trans hM_9), S, E.keep ⟨rfl, rfl, rfl, rfl, rfl, trivial⟩, by (omega)⟩, by omega⟩
 ·refine Qt (T_x (T_x (B_x (T_n (Qb (Qa (S_m E rfl rfl fun _ E1 => S_a E1 rfl rfl ?_)))))))
  clear E a E1; intro a E
  refine Qc (T_n (Qe ?_))
  have S0 := S; clear S
  obtain ⟨M_15, hM_15, hz_16, S⟩ := S0.freezeI (by (have wl := List.length_filter_le (fun x => !decide (x ∈ QC l1)) (l0.take k); simp at wl ⊢; omega))
  clear S0
  exact Qg E Tryz.results250 rfl ⟨_, rfl, M_15, (hM_1.trans (hM_4.trans hM_15)), (RdS.eqL hz_16 (by (rw [List.take_of_length_le (by omega)]; simp only [JZ]))), S.drop⟩
theorem yQ {M : Hp} {v0 v1 : Value} {l0 l1 : List Int} (h0 : RdI M v0 l0) (h1 : RdI M v1 l1)(hb : l0.length ≤ 1000000000000) :
  Pu Tryz.prog (.func (.func 173) #[] #[]) M [v0, v1] (fun r M' => RdI M' r ((l0).filter (fun x => !decide (x ∈ l1)))) := by
 refine Qk Tryz.func173 rfl Tryz.ntmps173 rfl Tryz.call173 ?_
 intro a w M1 H hM1 S E
 replace h0 := h0.le hM1
 replace h1 := h1.le hM1
 have b0 := h0.bound
 have b1 := h1.bound
 refine Qb (Qa (S_a E rfl rfl fun _ E1 => Qc (T_n (Qb (Qa (S_m E1 rfl rfl fun _ E2 => S_m E2 rfl rfl ?_))))))
 clear E a E1 E2; intro a E
 refine S_x (Qr E S rfl rfl rfl (lo_Without h0 h1 (by (omega))) (Hp.le.refl _) ?_)
 clear E a S; rintro a v_2 w M_1 hM_1 hv_2 S E
 refine S_a E rfl rfl ?_
 clear E a; intro a E
 refine Qc (T_n (Qe ?_))
 exact Qg E Tryz.results173 rfl ⟨_, rfl, M_1, hM_1, hv_2, S⟩
theorem yB {M : Hp} {v0 : Value} {l0 : List Int} (h0 : RdI M v0 l0){v1 : Value} {f1 : Int → Int} (h1 : PF1I Tryz.prog v1 M f1) {v2 : Value} {l2 : List Int} (h2 : RdI M v2 l2) (hb : l0.length ≤ 1000000000000) :
  Pu Tryz.prog (.func (.func 251) #[] #[]) M [v0, v1, v2] (fun r M' => RdI M' r ((l0).filter (fun x => !decide (f1 x ∈ l2)))) := by
 refine Qk Tryz.func251 rfl Tryz.ntmps251 rfl Tryz.call251 ?_
 intro a w M1 H hM1 S E
 replace h0 := h0.le hM1
 replace h1 := h1.le hM1
 replace h2 := h2.le hM1
 have b0 := h0.bound
 have b2 := h2.bound
 refine Qb (Qa (S_a E rfl rfl fun _ E1 => Qc (T_n (Qb (Qa (S_m E1 rfl rfl ?_))))))
 clear E a E1; intro a E
 refine S_x (Vv (p := []) E S rfl rfl rfl (ZO h2) (Hp.le.refl _) ?_)
 clear E a S; rintro a _ w M_1 _ hM_1 ⟨v_2, rfl, rfl⟩ S E
 replace S : St w M_1 (Zs v_2 (QC l2) :: _) := S
 replace h0 := h0.le hM_1
 replace h1 := h1.le hM_1
 refine S_a E rfl rfl fun _ E1 => Qc (T_n (Qb (Qa (S_m E1 rfl rfl fun _ E2 => S_v E2 rfl (Qp E2 rfl T22 h0.len) rfl ?_))))
 clear E a E1 E2; intro a E
 refine S_x (Jf (k := (l0).length) E S rfl rfl rfl T22 rfl (by omega) (by omega) (by omega) ?_)
 clear E a S; rintro a w v_3 E S
 replace S := S.made0
 refine S_a E rfl rfl fun _ E1 => Qc (T_n (Qb (Qb (Qa (S_m E1 rfl rfl fun _ E2 => S_v E2 rfl (Qp E2 rfl T22 h0.len) rfl fun _ E3 => S_m E3 rfl rfl ?_)))))
 clear E a E1 E2 E3; intro a E
 refine Qc (T_n (Qi ?_))
 replace S := S.re1 (l' := (l0.take 0).filter (fun x => !decide (f1 x ∈ QC l2))) (by ((simp; done)))
 refine Qx (γ := Nat) (fun (k : Nat) a w => ∃ (M_4 : Hp) (u8 : Value), Hp.le M_1 M_4 ∧ St w M_4 (QR 3 u8 ((l0.take k).filter (fun x => !decide (f1 x ∈ QC l2))) :: Zs v_2 (QC l2) :: H) ∧ Env a 40 [] [(1, v1), (7, .map (some v_2)), (8, u8), (18, v0), (19, .int .i64 (((l0).length : Nat) : Int)), (20, .int .i64 ((k : Nat) : Int))] ∧ (k ≤ (l0).length)) (fun k => ((l0).length) - k) 0 ⟨M_1, _, Hp.le.refl _, S, E.keep ⟨rfl, rfl, rfl, rfl, rfl, rfl, trivial⟩, by (omega)⟩ ?_
 try clear E
 try clear S
 try clear a
 try clear w
 rintro k a w ⟨M_4, u8, hM_4, S, E, hL0_0⟩
 replace h0 := h0.le hM_4
 replace h1 := h1.le hM_4
 have wl := List.length_filter_le (fun x => !decide (f1 x ∈ QC l2)) (l0.take k)
 refine Qb (Qa (S_v E rfl (QG E rfl rfl) rfl ?_))
 clear E a; intro a E
 refine Qc (T_n (Qb ?_))
 refine Qn E rfl (fun hc_5 => ?_) (fun hc_5 => ?_)
 ·refine Qh (T_n (Qb (Qi (Qb (Qa ?_)))))
  obtain ⟨x_6, hx_6⟩ : ∃ x, (l0)[k]? = some x := ⟨_, List.getElem?_eq_getElem (by omega)⟩
  obtain ⟨p_7, hp_7, qp_7⟩ := h0.at hx_6
  refine S_v E rfl (QB E rfl rfl T22 hp_7 rfl) rfl fun _ E1 => S_v E1 rfl (Qj E1 rfl Tryz.isAgg3 S.imm qp_7) rfl fun _ E2 => S_a E2 rfl rfl fun _ E3 => Qc (T_n (Qb (Qa (S_m E3 rfl rfl fun _ E4 => S_m E4 rfl rfl fun _ E5 => S_m E5 rfl rfl ?_))))
  clear E a E1 E2 E3 E4 E5; intro a E
  refine S_x (Qr E S rfl rfl rfl (h1.2 x_6) (Hp.le.refl _) ?_)
  clear E a S; rintro a _ w M_8 hM_8 rfl S E
  replace S := S.front1
  refine S_x (ZF E S rfl Yg rfl rfl ?_)
  clear E a S; rintro a w E S
  replace S : St w M_8 (Zs v_2 (QC l2) :: _) := S
  refine S_m E rfl rfl fun _ E1 => S_v E1 rfl (Qm E1 rfl rfl) rfl fun _ E2 => S_v E2 rfl (Qm E2 rfl rfl) rfl ?_
  clear E a E1 E2; intro a E
  refine S_x (Jp (cs := #[]) E S rfl Tryz.zeroValue117 rfl ?_)
  clear E a S; rintro a w b_9 E S
  refine Zr (Jz (us := []) E S rfl rfl (Tryz.sizeOf117 _) rfl (by intro u hu; cases hu) ?_)
  clear E a S; rintro a w E S
  replace S : St w M_8 (blk b_9 (.cells #[] 117) :: _) := S
  have S0 := S; clear S
  obtain ⟨M_10, hM_10, hb_11, S⟩ := S0.freezeB
  clear S0
  refine S_a E rfl rfl fun _ E1 => Qc (T_n (Qb (Qa (S_m E1 rfl rfl fun _ E2 => S_v E2 rfl (Zk E2 rfl) rfl ?_))))
  clear E a E1 E2; intro a E
  refine Qc (T_n ?_)
  refine QL E rfl (fun hc_12 => ?_) (fun hc_12 => ?_)
  ·refine Qa ?_
   refine S_m E rfl rfl fun _ E1 => S_m E1 rfl rfl ?_
   clear E a E1; intro a E
   refine S_x (Qy (ys := [x_6]) E S rfl T22 rfl rfl rfl ?_)
   clear E a S; rintro a w v_13 E S
   replace S := S.front2
   replace S := S.front1
   refine S_x (QH (xs := (l0.take k).filter (fun x => !decide (f1 x ∈ QC l2))) (ys := [x_6]) E S rfl rfl rfl T22 (by (simp at wl ⊢; omega)) ?_)
   clear E a S; rintro a w v_14 E S
   refine S_a E rfl rfl fun _ E1 => Qc (B_n (T_n (Qa (S_v E1 rfl (Qq (m := ((k + 1 : Nat) : Int)) E1 rfl rfl (by omega) (by omega)) rfl fun _ E2 => S_m E2 rfl rfl ?_))))
   clear E a E1 E2; intro a E
   refine Qc (T_n ?_)
   replace S := S.re1 (l' := (l0.take (k + 1)).filter (fun x => !decide (f1 x ∈ QC l2))) (by ((rw [Zh (by assumption)]; first | (simp [*]; done) | (simp_all; done))))
   exact ⟨k + 1, ⟨M_10, _, (hM_4.trans (hM_8.trans hM_10)), S, E.keep ⟨rfl, rfl, rfl, rfl, rfl, rfl, trivial⟩, by (omega)⟩, by omega⟩
  ·refine Qh ?_
   refine B_n (T_n (Qa (S_v E rfl (Qq (m := ((k + 1 : Nat) : Int)) E rfl rfl (by omega) (by omega)) rfl fun _ E1 => S_m E1 rfl rfl ?_)))
   clear E a E1; intro a E
   refine Qc (T_n ?_)
   replace S := S.front1
   replace S := S.re1 (l' := (l0.take (k + 1)).filter (fun x => !decide (f1 x ∈ QC l2))) (by ((rw [Zh (by assumption)]; first | (simp [*]; done) | (simp_all; done))))
   exact ⟨k + 1, ⟨M_10, _, (hM_4.trans (hM_8.trans hM_10)), S, E.keep ⟨rfl, rfl, rfl, rfl, rfl, rfl, trivial⟩, by (omega)⟩, by omega⟩
 ·refine Qt (T_x (T_x (B_x (T_n (Qb (Qa (S_m E rfl rfl fun _ E1 => S_a E1 rfl rfl ?_)))))))
  clear E a E1; intro a E
  refine Qc (T_n (Qe ?_))
  have S0 := S; clear S
  obtain ⟨M_15, hM_15, hz_16, S⟩ := S0.freezeI (by (have wl := List.length_filter_le (fun x => !decide (f1 x ∈ QC l2)) (l0.take k); simp at wl ⊢; omega))
  clear S0
  exact Qg E Tryz.results251 rfl ⟨_, rfl, M_15, (hM_1.trans (hM_4.trans hM_15)), (RdS.eqL hz_16 (by (rw [List.take_of_length_le (by omega)]; simp only [JZ]))), S.drop⟩
theorem zG {M : Hp} {v0 : Value} {l0 : List Int} (h0 : RdI M v0 l0) {v2 : Value} {l2 : List Int} (h2 : RdI M v2 l2) {kk1 kn1 : Int} (gk1 : -9223372036854775808 ≤ kn1 ∧ kn1 ≤ 9223372036854775807) (hb : l0.length ≤ 1000000000000) :
  Pu Tryz.prog (.func (.func 174) #[] #[]) M [v0, .agg #[.int .i64 kk1, .int .i64 kn1], v2] (fun r M' => RdI M' r ((l0).filter (fun x => !decide (Qs kk1 kn1 x 0 ∈ l2)))) := by
 refine Qk Tryz.func174 rfl Tryz.ntmps174 rfl Tryz.call174 ?_
 intro a w M1 H hM1 S E
 replace h0 := h0.le hM1
 replace h2 := h2.le hM1
 have b0 := h0.bound
 have b2 := h2.bound
 have hfl := List.length_filter_le (fun x => !decide (Qs kk1 kn1 x 0 ∈ l2)) l0
 refine Qb (Qa ?_)
 refine S_x (Jc (cs := #[.int .i64 kk1, .int .i64 kn1]) E S rfl rfl rfl ?_)
 clear E a S; rintro a w b_1 E S
 obtain ⟨M_2, hM_2, hb_1, S⟩ := S.freezeB
 replace h0 := h0.le hM_2
 replace h2 := h2.le hM_2
 refine S_a E rfl rfl fun _ E1 => Qc (T_n (Qb (Qa (S_m E1 rfl rfl fun _ E2 => S_v E2 rfl (QA E2 rfl (Tryz.isAgg30 _) (Tryz.sizeOf30 _) S.imm hb_1) rfl fun _ E3 => S_v E3 rfl (QT E3 rfl rfl) rfl fun _ E4 => S_m E4 rfl rfl ?_))))
 clear E a E1 E2 E3 E4; intro a E
 refine S_x (Qr E S rfl rfl rfl (yB h0 ⟨rfl, fun zx1 => je (x1 := zx1) (by omega)⟩ h2 (by (omega))) (Hp.le.refl _) ?_)
 clear E a S; rintro a v_4 w M_3 hM_3 hv_4 S E
 refine S_a E rfl rfl ?_
 clear E a; intro a E
 refine Qc (T_n (Qe ?_))
 exact Qg E Tryz.results174 rfl ⟨_, rfl, M_3, (hM_2.trans hM_3), (RdS.eqL hv_4 (by (rfl))), S⟩
end Go.Proofs.YtgceicmfefpngaaGreat.wFnScript
