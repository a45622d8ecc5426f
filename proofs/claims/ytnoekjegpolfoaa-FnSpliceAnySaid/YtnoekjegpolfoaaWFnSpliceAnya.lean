/- Walks through the functions that laws.FnSpliceAny reaches: what each computes; no conditions beyond what each theorem states. -/
import Derived.Test.YtnoekjegpolfoaaProg
import Derived.Test.YtnoekjegpolfoaaSlK
set_option linter.unusedVariables false
set_option linter.unusedSimpArgs false
namespace Go.Proofs.Ytnoekjegpolfoaa.wFnSpliceAny
open Go Go.Sl
theorem Try.mixed : Try.prog.follows .mixedOrders = true := by kernel_rfl
theorem T22 : SlT Try.prog 22 3 1 8 (.int .i64 0) := ⟨Try.underlying22, ⟨Try.t3, by kernel_rfl, rfl, rfl, rfl⟩, rfl, by decide⟩
theorem T31 : SlT Try.prog 31 22 1 24 (.slice none 0 0) := ⟨Try.underlying31, ⟨Try.t22, by kernel_rfl, rfl, rfl, rfl⟩, rfl, by decide⟩

def spliceL (l : List Int) (i : Int) (m : List Int) : List Int :=
  let j := min (if i < 0 then (i + l.length).toNat else i.toNat) l.length
  l.take j ++ m ++ l.drop j

theorem splice_same (l m : List Int) (i : Int) : (spliceL l i m).length = (l ++ m).length ∧ ∀ x ∈ spliceL l i m, (spliceL l i m).count x = (l ++ m).count x := by
  have h : (spliceL l i m).Perm (l ++ m) := by
    unfold spliceL
    generalize min (if i < 0 then (i + l.length).toNat else i.toNat) l.length = j
    have e : l ++ m = l.take j ++ l.drop j ++ m := by rw [List.take_append_drop]
    rw [e, List.append_assoc, List.append_assoc]
    exact List.Perm.append_left _ List.perm_append_comm
  exact ⟨h.length_eq, fun x _ => h.count_eq x⟩

set_option maxHeartbeats 4000000 in
theorem lo_Splice {M : Hp} {v0 v2 : Value} {l0 l2 : List Int} (h0 : RdI M v0 l0) (h2 : RdI M v2 l2){x1 : Int} (g1 : -9223372036854775808 ≤ x1 ∧ x1 ≤ 9223372036854775807)(hb : l0.length + l2.length ≤ 1000000000000) :
    Pu Try.prog (.func (.func 57) #[] #[]) M [v0, .int .i64 x1, v2] (fun r M' => RdI M' r (spliceL l0 x1 l2)) := by
  refine Pu_enter Try.func57 rfl Try.ntmps57 rfl Try.call57 ?_
  intro a w M1 H hM1 S E
  replace h0 := h0.le hM1
  replace h2 := h2.le hM1
  have b0 := h0.bound
  have b2 := h2.bound
  refine WP_seq ?_
  refine WP_region ?_
  refine S_v E rfl (R_assign E rfl) rfl ?_
  clear E a; intro a E
  refine WL_nil ?_
  refine T_n ?_
  refine WP_seq ?_
  refine WP_region ?_
  refine S_v E rfl (R_move E rfl) rfl ?_
  clear E a; intro a E
  refine S_v E rfl (R_lenV E rfl T22 h0.len) rfl ?_
  clear E a; intro a E
  refine S_v E rfl (R_assign E rfl) rfl ?_
  clear E a; intro a E
  refine WL_nil ?_
  refine T_n ?_
  refine WP_seq ?_
  refine WP_region ?_
  refine S_v E rfl (R_move E rfl) rfl ?_
  clear E a; intro a E
  refine S_v E rfl (R_lenV E rfl T22 h2.len) rfl ?_
  clear E a; intro a E
  refine S_v E rfl (R_assign E rfl) rfl ?_
  clear E a; intro a E
  refine WL_nil ?_
  refine T_n ?_
  refine WP_seq ?_
  refine WP_region ?_
  refine S_v E rfl (R_move E rfl) rfl ?_
  clear E a; intro a E
  refine S_v E rfl (R_move E rfl) rfl ?_
  clear E a; intro a E
  refine S_v E rfl (R_addx (m := (((l0).length + (l2).length : Nat) : Int)) E rfl rfl (by omega) (by omega)) rfl ?_
  clear E a; intro a E
  refine S_x (X_make0 (k := (l0).length + (l2).length) E S rfl rfl rfl T22 rfl (by omega) (by omega) (by omega) ?_)
  clear E a S; rintro a w v1 E S
  refine S_v E rfl (R_assign E rfl) rfl ?_
  clear E a; intro a E
  refine WL_nil ?_
  refine T_n ?_
  refine WP_seq ?_
  refine WP_block ?_
  refine WP_seq ?_
  refine WP_region ?_
  refine S_v E rfl (R_move E rfl) rfl ?_
  clear E a; intro a E
  refine S_v E rfl (R_eql E rfl rfl) rfl ?_
  clear E a; intro a E
  refine S_v E rfl (R_assign E rfl) rfl ?_
  clear E a; intro a E
  refine WL_nil ?_
  refine T_n ?_
  refine WP_cond E rfl (fun hc2 => ?_) (fun hc2 => ?_)
  · replace hc2 := of_decide_eq_true hc2
    refine WP_seq ?_
    refine WP_region ?_
    refine S_v E rfl (R_move E rfl) rfl ?_
    clear E a; intro a E
    refine S_v E rfl (R_move E rfl) rfl ?_
    clear E a; intro a E
    refine S_x (X_appendI (xs := ([] : List Int)) E S rfl rfl rfl T22 h0 (by first | omega | (simp; omega) | (simp_all; omega)) ?_)
    clear E a S; rintro a w v3 E S
    refine S_v E rfl (R_assign E rfl) rfl ?_
    clear E a; intro a E
    refine WL_nil ?_
    refine T_n ?_
    refine WP_ret ?_
    refine B_r ?_
    refine T_r ?_
    have S0 := S; clear S
    obtain ⟨M_4, hM_4, hz5, S⟩ := S0.freezeI (by (first | omega | (simp; omega) | (simp; done) | (simp_all; omega) | grind))
    clear S0
    replace h0 := h0.le hM_4
    replace h2 := h2.le hM_4
    exact F_ret1 E Try.results57 rfl ⟨_, rfl, M_4, hM_4, (by rw [show (spliceL l0 x1 l2) = ([] ++ l0) from by unfold spliceL; simp only [List.nil_append]; first | (have e := List.eq_nil_of_length_eq_zero (l := l2) (by omega); subst e; simp; done) | (rw [show min (if x1 < 0 then (x1 + ↑l0.length).toNat else x1.toNat) l0.length = l0.length by split <;> omega]; simp; done) | (rw [show min (if x1 < 0 then (x1 + ↑l0.length).toNat else x1.toNat) l0.length = 0 by split <;> omega]; simp; done) | (rw [show min (if x1 < 0 then (x1 + ↑l0.length).toNat else x1.toNat) l0.length = x1.toNat by split <;> omega]; done) | (rw [show min (if x1 < 0 then (x1 + ↑l0.length).toNat else x1.toNat) l0.length = (↑l0.length + x1).toNat by split <;> omega]; done)]; exact hz5), S⟩
  · replace hc2 := of_decide_eq_false hc2
    refine WP_seq ?_
    refine WP_region ?_
    refine S_v E rfl (R_move E rfl) rfl ?_
    clear E a; intro a E
    refine S_v E rfl (R_move E rfl) rfl ?_
    clear E a; intro a E
    refine S_v E rfl (R_gtr E rfl rfl) rfl ?_
    clear E a; intro a E
    refine S_v E rfl (R_assign E rfl) rfl ?_
    clear E a; intro a E
    refine WL_nil ?_
    refine T_n ?_
    refine WP_cond E rfl (fun hc6 => ?_) (fun hc6 => ?_)
    · replace hc6 := of_decide_eq_true hc6
      refine WP_seq ?_
      refine WP_region ?_
      refine S_v E rfl (R_move E rfl) rfl ?_
      clear E a; intro a E
      refine S_v E rfl (R_move E rfl) rfl ?_
      clear E a; intro a E
      refine S_x (X_appendI (xs := ([] : List Int)) E S rfl rfl rfl T22 h0 (by first | omega | (simp; omega) | (simp_all; omega)) ?_)
      clear E a S; rintro a w v7 E S
      refine S_v E rfl (R_move E rfl) rfl ?_
      clear E a; intro a E
      refine S_x (X_appendI (xs := [] ++ l0) E S rfl rfl rfl T22 h2 (by first | omega | (simp; omega) | (simp_all; omega)) ?_)
      clear E a S; rintro a w v8 E S
      refine S_v E rfl (R_assign E rfl) rfl ?_
      clear E a; intro a E
      refine WL_nil ?_
      refine T_n ?_
      refine WP_ret ?_
      refine B_r ?_
      refine T_r ?_
      have S0 := S; clear S
      obtain ⟨M_9, hM_9, hz10, S⟩ := S0.freezeI (by (first | omega | (simp; omega) | (simp; done) | (simp_all; omega) | grind))
      clear S0
      replace h0 := h0.le hM_9
      replace h2 := h2.le hM_9
      exact F_ret1 E Try.results57 rfl ⟨_, rfl, M_9, hM_9, (by rw [show (spliceL l0 x1 l2) = (([] ++ l0) ++ l2) from by unfold spliceL; simp only [List.nil_append]; first | (have e := List.eq_nil_of_length_eq_zero (l := l2) (by omega); subst e; simp; done) | (rw [show min (if x1 < 0 then (x1 + ↑l0.length).toNat else x1.toNat) l0.length = l0.length by split <;> omega]; simp; done) | (rw [show min (if x1 < 0 then (x1 + ↑l0.length).toNat else x1.toNat) l0.length = 0 by split <;> omega]; simp; done) | (rw [show min (if x1 < 0 then (x1 + ↑l0.length).toNat else x1.toNat) l0.length = x1.toNat by split <;> omega]; done) | (rw [show min (if x1 < 0 then (x1 + ↑l0.length).toNat else x1.toNat) l0.length = (↑l0.length + x1).toNat by split <;> omega]; done)]; exact hz10), S⟩
    · replace hc6 := of_decide_eq_false hc6
      refine WP_seq ?_
      refine WP_region ?_
      refine S_v E rfl (R_move E rfl) rfl ?_
      clear E a; intro a E
      refine S_v E rfl (R_move E rfl) rfl ?_
      clear E a; intro a E
      refine S_v E rfl (R_negx (m := -(((l0).length : Nat) : Int)) E rfl rfl (by omega)) rfl ?_
      clear E a; intro a E
      refine S_v E rfl (R_lss E rfl rfl) rfl ?_
      clear E a; intro a E
      refine S_v E rfl (R_assign E rfl) rfl ?_
      clear E a; intro a E
      refine WL_nil ?_
      refine T_n ?_
      refine WP_cond E rfl (fun hc11 => ?_) (fun hc11 => ?_)
      · replace hc11 := of_decide_eq_true hc11
        refine WP_seq ?_
        refine WP_region ?_
        refine S_v E rfl (R_move E rfl) rfl ?_
        clear E a; intro a E
        refine S_v E rfl (R_move E rfl) rfl ?_
        clear E a; intro a E
        refine S_x (X_appendI (xs := ([] : List Int)) E S rfl rfl rfl T22 h2 (by first | omega | (simp; omega) | (simp_all; omega)) ?_)
        clear E a S; rintro a w v12 E S
        refine S_v E rfl (R_move E rfl) rfl ?_
        clear E a; intro a E
        refine S_x (X_appendI (xs := [] ++ l2) E S rfl rfl rfl T22 h0 (by first | omega | (simp; omega) | (simp_all; omega)) ?_)
        clear E a S; rintro a w v13 E S
        refine S_v E rfl (R_assign E rfl) rfl ?_
        clear E a; intro a E
        refine WL_nil ?_
        refine T_n ?_
        refine WP_ret ?_
        refine B_r ?_
        refine T_r ?_
        have S0 := S; clear S
        obtain ⟨M_14, hM_14, hz15, S⟩ := S0.freezeI (by (first | omega | (simp; omega) | (simp; done) | (simp_all; omega) | grind))
        clear S0
        replace h0 := h0.le hM_14
        replace h2 := h2.le hM_14
        exact F_ret1 E Try.results57 rfl ⟨_, rfl, M_14, hM_14, (by rw [show (spliceL l0 x1 l2) = (([] ++ l2) ++ l0) from by unfold spliceL; simp only [List.nil_append]; first | (have e := List.eq_nil_of_length_eq_zero (l := l2) (by omega); subst e; simp; done) | (rw [show min (if x1 < 0 then (x1 + ↑l0.length).toNat else x1.toNat) l0.length = l0.length by split <;> omega]; simp; done) | (rw [show min (if x1 < 0 then (x1 + ↑l0.length).toNat else x1.toNat) l0.length = 0 by split <;> omega]; simp; done) | (rw [show min (if x1 < 0 then (x1 + ↑l0.length).toNat else x1.toNat) l0.length = x1.toNat by split <;> omega]; done) | (rw [show min (if x1 < 0 then (x1 + ↑l0.length).toNat else x1.toNat) l0.length = (↑l0.length + x1).toNat by split <;> omega]; done)]; exact hz15), S⟩
      · replace hc11 := of_decide_eq_false hc11
        refine WP_seq ?_
        refine WP_region ?_
        refine S_v E rfl (R_move E rfl) rfl ?_
        clear E a; intro a E
        refine S_v E rfl (R_lss E rfl rfl) rfl ?_
        clear E a; intro a E
        refine S_v E rfl (R_assign E rfl) rfl ?_
        clear E a; intro a E
        refine WL_nil ?_
        refine T_n ?_
        refine WP_cond E rfl (fun hc16 => ?_) (fun hc16 => ?_)
        · replace hc16 := of_decide_eq_true hc16
          refine WP_region ?_
          refine S_v E rfl (R_move E rfl) rfl ?_
          clear E a; intro a E
          refine S_v E rfl (R_move E rfl) rfl ?_
          clear E a; intro a E
          refine S_v E rfl (R_addx (m := (((l0).length : Nat) : Int) + x1) E rfl rfl (by omega) (by omega)) rfl ?_
          clear E a; intro a E
          refine S_v E rfl (R_assign E rfl) rfl ?_
          clear E a; intro a E
          refine WL_nil ?_
          refine B_n ?_
          refine T_n ?_
          refine WP_seq ?_
          replace S := S.mono_heap (w' := World.drew _) rfl
          refine WP_drawn (C := fun w => agree M1 w) [0, 1, 2, 3, 5, 7, 8, 9] [0, 1, 2, 3, 5, 7, 8, 9, 4, 6, 10, 11] Try.mixed (by kernel_rfl) S.imm ?_
          refine D_v E rfl rfl rfl (fun w hC => (R_move E rfl)) ?_
          clear E a; intro a E
          refine D_v E rfl rfl rfl (fun w hC => (R_move E rfl)) ?_
          clear E a; intro a E
          refine D_v E rfl rfl rfl (fun w hC => (R_move E rfl)) ?_
          clear E a; intro a E
          obtain ⟨v17, sv17, hv17⟩ := h0.subv 0 (((((l0).length : Nat) : Int) + x1).toNat) (by first | omega | (simp; omega) | (simp_all; omega)) (by first | omega | (simp; omega) | (simp_all; omega))
          simp only [List.drop_zero] at hv17
          replace hv17 : RdI M1 v17 ((l0).take (((((l0).length : Nat) : Int) + x1).toNat)) := hv17
          refine D_v E rfl rfl rfl (fun w hC => (R_sliceH E rfl rfl T22 sv17 (by omega))) ?_
          clear E a; intro a E
          refine D_v E rfl rfl rfl (fun w hC => (R_move E rfl)) ?_
          clear E a; intro a E
          refine D_v E rfl rfl rfl (fun w hC => (R_move E rfl)) ?_
          clear E a; intro a E
          refine D_v E rfl rfl rfl (fun w hC => (R_move E rfl)) ?_
          clear E a; intro a E
          obtain ⟨v18, sv18, hv18⟩ := h0.subv (((((l0).length : Nat) : Int) + x1).toNat) ((l0).length) (by first | omega | (simp; omega) | (simp_all; omega)) (by first | omega | (simp; omega) | (simp_all; omega))
          simp only [List.take_length] at hv18
          replace hv18 : RdI M1 v18 ((l0).drop (((((l0).length : Nat) : Int) + x1).toNat)) := hv18
          refine D_v E rfl rfl rfl (fun w hC => (R_sliceL E rfl rfl T22 h0.len sv18 (by omega))) ?_
          clear E a; intro a E
          refine D_x rfl rfl rfl (X_appendI (xs := ([] : List Int)) E S rfl rfl rfl T22 hv17 (by first | omega | (simp; omega) | (simp_all; omega)) ?_)
          clear E a S; rintro a w v19 E S
          refine ⟨(agree_le (Hp.le.refl _) S.imm), ?_⟩
          refine D_x rfl rfl rfl (X_appendI (xs := [] ++ ((l0).take (((((l0).length : Nat) : Int) + x1).toNat))) E S rfl rfl rfl T22 h2 (by first | omega | (simp; omega) | (simp_all; omega)) ?_)
          clear E a S; rintro a w v20 E S
          refine ⟨(agree_le (Hp.le.refl _) S.imm), ?_⟩
          refine D_x rfl rfl rfl (X_appendI (xs := ([] ++ ((l0).take (((((l0).length : Nat) : Int) + x1).toNat))) ++ l2) E S rfl rfl rfl T22 hv18 (by first | omega | (simp; omega) | (simp_all; omega)) ?_)
          clear E a S; rintro a w v21 E S
          refine ⟨(agree_le (Hp.le.refl _) S.imm), ?_⟩
          refine D_x rfl rfl rfl (X_val E rfl rfl (R_assign E rfl) fun a E => ⟨(agree_le (Hp.le.refl _) S.imm), ?_⟩)
          refine D_end (NoP_n ?_)
          refine T_n ?_
          refine WP_ret ?_
          have S0 := S; clear S
          obtain ⟨M_22, hM_22, hz23, S⟩ := S0.freezeI (by (first | omega | (simp; omega) | (simp; done) | (simp_all; omega) | grind))
          clear S0
          replace h0 := h0.le hM_22
          replace h2 := h2.le hM_22
          replace hv17 := hv17.le hM_22
          replace hv18 := hv18.le hM_22
          exact F_ret1 E Try.results57 rfl ⟨_, rfl, M_22, hM_22, (by rw [show (spliceL l0 x1 l2) = ((([] ++ ((l0).take (((((l0).length : Nat) : Int) + x1).toNat))) ++ l2) ++ ((l0).drop (((((l0).length : Nat) : Int) + x1).toNat))) from by unfold spliceL; simp only [List.nil_append]; first | (have e := List.eq_nil_of_length_eq_zero (l := l2) (by omega); subst e; simp; done) | (rw [show min (if x1 < 0 then (x1 + ↑l0.length).toNat else x1.toNat) l0.length = l0.length by split <;> omega]; simp; done) | (rw [show min (if x1 < 0 then (x1 + ↑l0.length).toNat else x1.toNat) l0.length = 0 by split <;> omega]; simp; done) | (rw [show min (if x1 < 0 then (x1 + ↑l0.length).toNat else x1.toNat) l0.length = x1.toNat by split <;> omega]; done) | (rw [show min (if x1 < 0 then (x1 + ↑l0.length).toNat else x1.toNat) l0.length = (↑l0.length + x1).toNat by split <;> omega]; done)]; exact hz23), S⟩
        · replace hc16 := of_decide_eq_false hc16
          refine WP_skip ?_
          refine B_n ?_
          refine T_n ?_
          refine WP_seq ?_
          replace S := S.mono_heap (w' := World.drew _) rfl
          refine WP_drawn (C := fun w => agree M1 w) [0, 1, 2, 3, 5, 7, 8, 9] [0, 1, 2, 3, 5, 7, 8, 9, 4, 6, 10, 11] Try.mixed (by kernel_rfl) S.imm ?_
          refine D_v E rfl rfl rfl (fun w hC => (R_move E rfl)) ?_
          clear E a; intro a E
          refine D_v E rfl rfl rfl (fun w hC => (R_move E rfl)) ?_
          clear E a; intro a E
          refine D_v E rfl rfl rfl (fun w hC => (R_move E rfl)) ?_
          clear E a; intro a E
          obtain ⟨v24, sv24, hv24⟩ := h0.subv 0 ((x1).toNat) (by first | omega | (simp; omega) | (simp_all; omega)) (by first | omega | (simp; omega) | (simp_all; omega))
          simp only [List.drop_zero] at hv24
          replace hv24 : RdI M1 v24 ((l0).take ((x1).toNat)) := hv24
          refine D_v E rfl rfl rfl (fun w hC => (R_sliceH E rfl rfl T22 sv24 (by omega))) ?_
          clear E a; intro a E
          refine D_v E rfl rfl rfl (fun w hC => (R_move E rfl)) ?_
          clear E a; intro a E
          refine D_v E rfl rfl rfl (fun w hC => (R_move E rfl)) ?_
          clear E a; intro a E
          refine D_v E rfl rfl rfl (fun w hC => (R_move E rfl)) ?_
          clear E a; intro a E
          obtain ⟨v25, sv25, hv25⟩ := h0.subv ((x1).toNat) ((l0).length) (by first | omega | (simp; omega) | (simp_all; omega)) (by first | omega | (simp; omega) | (simp_all; omega))
          simp only [List.take_length] at hv25
          replace hv25 : RdI M1 v25 ((l0).drop ((x1).toNat)) := hv25
          refine D_v E rfl rfl rfl (fun w hC => (R_sliceL E rfl rfl T22 h0.len sv25 (by omega))) ?_
          clear E a; intro a E
          refine D_x rfl rfl rfl (X_appendI (xs := ([] : List Int)) E S rfl rfl rfl T22 hv24 (by first | omega | (simp; omega) | (simp_all; omega)) ?_)
          clear E a S; rintro a w v26 E S
          refine ⟨(agree_le (Hp.le.refl _) S.imm), ?_⟩
          refine D_x rfl rfl rfl (X_appendI (xs := [] ++ ((l0).take ((x1).toNat))) E S rfl rfl rfl T22 h2 (by first | omega | (simp; omega) | (simp_all; omega)) ?_)
          clear E a S; rintro a w v27 E S
          refine ⟨(agree_le (Hp.le.refl _) S.imm), ?_⟩
          refine D_x rfl rfl rfl (X_appendI (xs := ([] ++ ((l0).take ((x1).toNat))) ++ l2) E S rfl rfl rfl T22 hv25 (by first | omega | (simp; omega) | (simp_all; omega)) ?_)
          clear E a S; rintro a w v28 E S
          refine ⟨(agree_le (Hp.le.refl _) S.imm), ?_⟩
          refine D_x rfl rfl rfl (X_val E rfl rfl (R_assign E rfl) fun a E => ⟨(agree_le (Hp.le.refl _) S.imm), ?_⟩)
          refine D_end (NoP_n ?_)
          refine T_n ?_
          refine WP_ret ?_
          have S0 := S; clear S
          obtain ⟨M_29, hM_29, hz30, S⟩ := S0.freezeI (by (first | omega | (simp; omega) | (simp; done) | (simp_all; omega) | grind))
          clear S0
          replace h0 := h0.le hM_29
          replace h2 := h2.le hM_29
          replace hv24 := hv24.le hM_29
          replace hv25 := hv25.le hM_29
          exact F_ret1 E Try.results57 rfl ⟨_, rfl, M_29, hM_29, (by rw [show (spliceL l0 x1 l2) = ((([] ++ ((l0).take ((x1).toNat))) ++ l2) ++ ((l0).drop ((x1).toNat))) from by unfold spliceL; simp only [List.nil_append]; first | (have e := List.eq_nil_of_length_eq_zero (l := l2) (by omega); subst e; simp; done) | (rw [show min (if x1 < 0 then (x1 + ↑l0.length).toNat else x1.toNat) l0.length = l0.length by split <;> omega]; simp; done) | (rw [show min (if x1 < 0 then (x1 + ↑l0.length).toNat else x1.toNat) l0.length = 0 by split <;> omega]; simp; done) | (rw [show min (if x1 < 0 then (x1 + ↑l0.length).toNat else x1.toNat) l0.length = x1.toNat by split <;> omega]; done) | (rw [show min (if x1 < 0 then (x1 + ↑l0.length).toNat else x1.toNat) l0.length = (↑l0.length + x1).toNat by split <;> omega]; done)]; exact hz30), S⟩

set_option maxHeartbeats 4000000 in
theorem impl_Splice {M : Hp} {v0 v2 : Value} {l0 l2 : List Int} (h0 : RdI M v0 l0) (h2 : RdI M v2 l2){x1 : Int} (g1 : -9223372036854775808 ≤ x1 ∧ x1 ≤ 9223372036854775807)(hb : l0.length + l2.length ≤ 1000000000000) :
    Pu Try.prog (.func (.func 12) #[] #[]) M [v0, .int .i64 x1, v2] (fun r M' => RdI M' r (spliceL l0 x1 l2)) := by
  refine Pu_enter Try.func12 rfl Try.ntmps12 rfl Try.call12 ?_
  intro a w M1 H hM1 S E
  replace h0 := h0.le hM1
  replace h2 := h2.le hM1
  have b0 := h0.bound
  have b2 := h2.bound
  refine WP_seq ?_
  refine WP_region ?_
  refine S_v E rfl (R_assign E rfl) rfl ?_
  clear E a; intro a E
  refine WL_nil ?_
  refine T_n ?_
  refine WP_seq ?_
  refine WP_region ?_
  refine S_v E rfl (R_move E rfl) rfl ?_
  clear E a; intro a E
  refine S_v E rfl (R_move E rfl) rfl ?_
  clear E a; intro a E
  refine S_v E rfl (R_move E rfl) rfl ?_
  clear E a; intro a E
  refine S_x (X_pu E S rfl rfl rfl (lo_Splice h0 h2 (by (first | omega | (simp; omega) | (simp; done) | (simp_all; omega) | grind)) (by (first | omega | (simp; omega) | (simp; done) | (simp_all; omega) | grind))) (Hp.le.refl _) ?_)
  clear E a S; rintro a v2 w M_1 hM_1 hv2 S E
  replace h0 := h0.le hM_1
  replace h2 := h2.le hM_1
  refine S_v E rfl (R_assign E rfl) rfl ?_
  clear E a; intro a E
  refine WL_nil ?_
  refine T_n ?_
  refine WP_ret ?_
  exact F_ret1 E Try.results12 rfl ⟨_, rfl, M_1, hM_1, hv2, S⟩

set_option maxHeartbeats 4000000 in
theorem laws_few {M : Hp} {v0 : Value} {l0 : List (List Int)} (h0 : RdII M v0 l0) :
    Pu Try.prog (.func (.func 13) #[] #[]) M [v0] (fun r M' => r = .bool (decide (∀ x ∈ l0, x.length ≤ 300))) := by
  refine Pu_enter Try.func13 rfl Try.ntmps13 rfl Try.call13 ?_
  intro a w M1 H hM1 S E
  replace h0 := h0.le hM1
  have b0 := h0.bound
  refine WP_seq ?_
  refine WP_region ?_
  refine S_v E rfl (R_assign E rfl) rfl ?_
  clear E a; intro a E
  refine WL_nil ?_
  refine T_n ?_
  refine WP_seq ?_
  refine WP_seq ?_
  refine WP_region ?_
  refine S_v E rfl (R_move E rfl) rfl ?_
  clear E a; intro a E
  refine S_v E rfl (R_lenV E rfl T31 h0.len) rfl ?_
  clear E a; intro a E
  refine S_v E rfl (R_move E rfl) rfl ?_
  clear E a; intro a E
  refine WL_nil ?_
  refine T_n ?_
  refine WP_block ?_
  refine WP_loop (γ := Nat) (fun (k : Nat) a w => ∃ (M_1 : Hp), Hp.le M1 M_1 ∧ St w M_1 (H) ∧ Env a 15 [] [(5, v0), (6, .int .i64 (((l0).length : Nat) : Int)), (7, .int .i64 ((k : Nat) : Int))] ∧ (k ≤ (l0).length) ∧ (∀ x ∈ l0.take k, x.length ≤ 300)) (fun k => ((l0).length) - k) 0 ⟨M1, Hp.le.refl _, S, E.keep ⟨rfl, rfl, rfl, trivial⟩, by ((try clear S); (try clear E); first | assumption | omega | rfl | (simp; done) | (simp_all; done) | (simp [List.take_add_one, *]; done) | grind [List.take_add_one]), by ((try clear S); (try clear E); first | assumption | omega | rfl | (simp; done) | (simp_all; done) | (simp [List.take_add_one, *]; done) | grind [List.take_add_one])⟩ ?_
  try clear E
  try clear S
  try clear a
  try clear w
  rintro k a w ⟨M_1, hM_1, S, E, hL0_0, hL0_1⟩
  replace h0 := h0.le hM_1
  refine WP_seq ?_
  refine WP_region ?_
  refine S_v E rfl (R_lss E rfl rfl) rfl ?_
  clear E a; intro a E
  refine WL_nil ?_
  refine T_n ?_
  refine WP_seq ?_
  refine WP_cond E rfl (fun hc2 => ?_) (fun hc2 => ?_)
  · replace hc2 := of_decide_eq_true hc2
    refine WP_skip ?_
    refine T_n ?_
    refine WP_seq ?_
    refine WP_block ?_
    refine WP_seq ?_
    refine WP_region ?_
    obtain ⟨x3, hx3⟩ : ∃ x, (l0)[k]? = some x := ⟨_, List.getElem?_eq_getElem (by first | omega | (simp; omega) | (simp_all; omega))⟩
    obtain ⟨p4, u5, hp4, qp4, hu5⟩ := h0.at hx3
    refine S_v E rfl (R_idx E rfl rfl T31 hp4 rfl) rfl ?_
    clear E a; intro a E
    refine S_v E rfl (R_loadM E rfl Try.isAgg22 S.imm qp4) rfl ?_
    clear E a; intro a E
    refine S_v E rfl (R_assign E rfl) rfl ?_
    clear E a; intro a E
    refine WL_nil ?_
    refine T_n ?_
    refine WP_seq ?_
    refine WP_region ?_
    refine S_v E rfl (R_move E rfl) rfl ?_
    clear E a; intro a E
    refine S_v E rfl (R_lenV E rfl T22 hu5.len) rfl ?_
    clear E a; intro a E
    refine S_v E rfl (R_gtr E rfl rfl) rfl ?_
    clear E a; intro a E
    refine WL_nil ?_
    refine T_n ?_
    refine WP_cond E rfl (fun hc6 => ?_) (fun hc6 => ?_)
    · replace hc6 := of_decide_eq_true hc6
      refine WP_seq ?_
      refine WP_region ?_
      refine S_v E rfl (R_assign E rfl) rfl ?_
      clear E a; intro a E
      refine WL_nil ?_
      refine T_n ?_
      refine WP_ret ?_
      refine B_r ?_
      refine T_r ?_
      refine T_r ?_
      refine B_r ?_
      refine T_r ?_
      exact F_ret1 E Try.results13 rfl ⟨_, rfl, M_1, hM_1, (bF (by ((try clear S); (try clear E); first | assumption | omega | rfl | (simp; done) | (simp_all; done) | (simp [List.take_add_one, *]; done) | grind [List.take_add_one]))), S⟩
    · replace hc6 := of_decide_eq_false hc6
      refine WP_skip ?_
      refine B_n ?_
      refine T_n ?_
      refine WP_region ?_
      refine S_v E rfl (R_addx (m := ((k + 1 : Nat) : Int)) E rfl rfl (by omega) (by omega)) rfl ?_
      clear E a; intro a E
      refine S_v E rfl (R_move E rfl) rfl ?_
      clear E a; intro a E
      refine WL_nil ?_
      refine T_n ?_
      exact ⟨k + 1, ⟨M_1, hM_1, S, E.keep ⟨rfl, rfl, rfl, trivial⟩, by ((try clear S); (try clear E); first | assumption | omega | rfl | (simp; done) | (simp_all; done) | (simp [List.take_add_one, *]; done) | grind [List.take_add_one]), by ((try clear S); (try clear E); first | assumption | omega | rfl | (simp; done) | (simp_all; done) | (simp [List.take_add_one, *]; done) | grind [List.take_add_one])⟩, by omega⟩
  · replace hc2 := of_decide_eq_false hc2
    refine WP_exit ?_
    refine T_x ?_
    refine T_x ?_
    refine B_x ?_
    refine T_n ?_
    refine WP_seq ?_
    refine WP_region ?_
    refine S_v E rfl (R_assign E rfl) rfl ?_
    clear E a; intro a E
    refine WL_nil ?_
    refine T_n ?_
    refine WP_ret ?_
    exact F_ret1 E Try.results13 rfl ⟨_, rfl, M_1, hM_1, (bT (by ((try clear S); (try clear E); first | assumption | omega | rfl | (simp; done) | (simp_all; done) | (simp [List.take_add_one, *]; done) | grind [List.take_add_one]))), S⟩

set_option maxHeartbeats 4000000 in
theorem spec_Splice {M : Hp} {v0 v2 : Value} {l0 l2 : List Int} (h0 : RdI M v0 l0) (h2 : RdI M v2 l2){x1 : Int} (g1 : -9223372036854775808 ≤ x1 ∧ x1 ≤ 9223372036854775807)(hb : l0.length + l2.length ≤ 1000000000000) :
    Pu Try.prog (.func (.func 15) #[] #[]) M [v0, .int .i64 x1, v2] (fun r M' => RdI M' r (spliceL l0 x1 l2)) := by
  refine Pu_enter Try.func15 rfl Try.ntmps15 rfl Try.call15 ?_
  intro a w M1 H hM1 S E
  replace h0 := h0.le hM1
  replace h2 := h2.le hM1
  have b0 := h0.bound
  have b2 := h2.bound
  refine WP_seq ?_
  refine WP_region ?_
  refine S_v E rfl (R_assign E rfl) rfl ?_
  clear E a; intro a E
  refine WL_nil ?_
  refine T_n ?_
  refine WP_seq ?_
  refine WP_seq ?_
  refine WP_region ?_
  refine S_v E rfl (R_move E rfl) rfl ?_
  clear E a; intro a E
  refine S_v E rfl (R_lss E rfl rfl) rfl ?_
  clear E a; intro a E
  refine WL_nil ?_
  refine T_n ?_
  refine WP_cond E rfl (fun hc1 => ?_) (fun hc1 => ?_)
  · replace hc1 := of_decide_eq_true hc1
    refine WP_region ?_
    refine S_v E rfl (R_move E rfl) rfl ?_
    clear E a; intro a E
    refine S_v E rfl (R_move E rfl) rfl ?_
    clear E a; intro a E
    refine S_v E rfl (R_lenV E rfl T22 h0.len) rfl ?_
    clear E a; intro a E
    refine S_v E rfl (R_addx (m := x1 + (((l0).length : Nat) : Int)) E rfl rfl (by omega) (by omega)) rfl ?_
    clear E a; intro a E
    refine S_v E rfl (R_max (m := max (x1 + (((l0).length : Nat) : Int)) 0) E rfl rfl (by omega)) rfl ?_
    clear E a; intro a E
    refine S_v E rfl (R_assign E rfl) rfl ?_
    clear E a; intro a E
    refine WL_nil ?_
    refine T_n ?_
    refine WP_seq ?_
    refine WP_region ?_
    refine S_v E rfl (R_move E rfl) rfl ?_
    clear E a; intro a E
    refine S_v E rfl (R_move E rfl) rfl ?_
    clear E a; intro a E
    refine S_v E rfl (R_lenV E rfl T22 h0.len) rfl ?_
    clear E a; intro a E
    refine S_v E rfl (R_min (m := min (max (x1 + (((l0).length : Nat) : Int)) 0) (((l0).length : Nat) : Int)) E rfl rfl (by omega)) rfl ?_
    clear E a; intro a E
    refine S_v E rfl (R_assign E rfl) rfl ?_
    clear E a; intro a E
    refine WL_nil ?_
    refine T_n ?_
    refine WP_seq ?_
    replace S := S.mono_heap (w' := World.drew _) rfl
    refine WP_drawn (C := fun w => agree M1 w) [1, 2, 3, 5, 7, 8, 9] [1, 2, 3, 5, 7, 8, 9, 0, 4, 6, 10, 11] Try.mixed (by kernel_rfl) S.imm ?_
    refine D_v E rfl rfl rfl (fun w hC => (R_move E rfl)) ?_
    clear E a; intro a E
    refine D_v E rfl rfl rfl (fun w hC => (R_move E rfl)) ?_
    clear E a; intro a E
    obtain ⟨v2, sv2, hv2⟩ := h0.subv 0 ((min (max (x1 + (((l0).length : Nat) : Int)) 0) (((l0).length : Nat) : Int)).toNat) (by first | omega | (simp; omega) | (simp_all; omega)) (by first | omega | (simp; omega) | (simp_all; omega))
    simp only [List.drop_zero] at hv2
    replace hv2 : RdI M1 v2 ((l0).take ((min (max (x1 + (((l0).length : Nat) : Int)) 0) (((l0).length : Nat) : Int)).toNat)) := hv2
    refine D_v E rfl rfl rfl (fun w hC => (R_sliceH E rfl rfl T22 sv2 (by omega))) ?_
    clear E a; intro a E
    refine D_v E rfl rfl rfl (fun w hC => (R_move E rfl)) ?_
    clear E a; intro a E
    refine D_v E rfl rfl rfl (fun w hC => (R_move E rfl)) ?_
    clear E a; intro a E
    refine D_v E rfl rfl rfl (fun w hC => (R_move E rfl)) ?_
    clear E a; intro a E
    obtain ⟨v3, sv3, hv3⟩ := h0.subv ((min (max (x1 + (((l0).length : Nat) : Int)) 0) (((l0).length : Nat) : Int)).toNat) ((l0).length) (by first | omega | (simp; omega) | (simp_all; omega)) (by first | omega | (simp; omega) | (simp_all; omega))
    simp only [List.take_length] at hv3
    replace hv3 : RdI M1 v3 ((l0).drop ((min (max (x1 + (((l0).length : Nat) : Int)) 0) (((l0).length : Nat) : Int)).toNat)) := hv3
    refine D_v E rfl rfl rfl (fun w hC => (R_sliceL E rfl rfl T22 h0.len sv3 (by omega))) ?_
    clear E a; intro a E
    refine D_x rfl rfl rfl (X_buildI (ys := []) E S rfl T22 rfl rfl rfl ?_)
    clear E a S; rintro a w v4 E S
    refine ⟨(agree_le (Hp.le.refl _) S.imm), ?_⟩
    refine D_x rfl rfl rfl (X_appendI (xs := ([] : List Int)) E S rfl rfl rfl T22 hv2 (by first | omega | (simp; omega) | (simp_all; omega)) ?_)
    clear E a S; rintro a w v5 E S
    refine ⟨(agree_le (Hp.le.refl _) S.imm), ?_⟩
    refine D_x rfl rfl rfl (X_appendI (xs := [] ++ ((l0).take ((min (max (x1 + (((l0).length : Nat) : Int)) 0) (((l0).length : Nat) : Int)).toNat))) E S rfl rfl rfl T22 h2 (by first | omega | (simp; omega) | (simp_all; omega)) ?_)
    clear E a S; rintro a w v6 E S
    refine ⟨(agree_le (Hp.le.refl _) S.imm), ?_⟩
    refine D_x rfl rfl rfl (X_appendI (xs := ([] ++ ((l0).take ((min (max (x1 + (((l0).length : Nat) : Int)) 0) (((l0).length : Nat) : Int)).toNat))) ++ l2) E S rfl rfl rfl T22 hv3 (by first | omega | (simp; omega) | (simp_all; omega)) ?_)
    clear E a S; rintro a w v7 E S
    refine ⟨(agree_le (Hp.le.refl _) S.imm), ?_⟩
    refine D_x rfl rfl rfl (X_val E rfl rfl (R_assign E rfl) fun a E => ⟨(agree_le (Hp.le.refl _) S.imm), ?_⟩)
    refine D_end (NoP_n ?_)
    refine T_n ?_
    refine WP_ret ?_
    have S0 := S; clear S
    obtain ⟨M_8, hM_8, hz9, S⟩ := S0.freezeI (by (first | omega | (simp; omega) | (simp; done) | (simp_all; omega) | grind))
    clear S0
    replace h0 := h0.le hM_8
    replace h2 := h2.le hM_8
    replace hv2 := hv2.le hM_8
    replace hv3 := hv3.le hM_8
    exact F_ret1 E Try.results15 rfl ⟨_, rfl, M_8, hM_8, (by rw [show (spliceL l0 x1 l2) = ((([] ++ ((l0).take ((min (max (x1 + (((l0).length : Nat) : Int)) 0) (((l0).length : Nat) : Int)).toNat))) ++ l2) ++ ((l0).drop ((min (max (x1 + (((l0).length : Nat) : Int)) 0) (((l0).length : Nat) : Int)).toNat))) from by unfold spliceL; simp only [List.nil_append]; first | (rw [if_neg (by omega)]; have e : min x1.toNat l0.length = (min x1 ↑l0.length).toNat := (by omega); rw [e]; done) | (rw [if_pos (by omega)]; have e : min (x1 + ↑l0.length).toNat l0.length = (min (max (x1 + ↑l0.length) 0) ↑l0.length).toNat := (by omega); rw [e]; done)]; exact hz9), S⟩
  · replace hc1 := of_decide_eq_false hc1
    refine WP_skip ?_
    refine T_n ?_
    refine WP_seq ?_
    refine WP_region ?_
    refine S_v E rfl (R_move E rfl) rfl ?_
    clear E a; intro a E
    refine S_v E rfl (R_move E rfl) rfl ?_
    clear E a; intro a E
    refine S_v E rfl (R_lenV E rfl T22 h0.len) rfl ?_
    clear E a; intro a E
    refine S_v E rfl (R_min (m := min x1 (((l0).length : Nat) : Int)) E rfl rfl (by omega)) rfl ?_
    clear E a; intro a E
    refine S_v E rfl (R_assign E rfl) rfl ?_
    clear E a; intro a E
    refine WL_nil ?_
    refine T_n ?_
    refine WP_seq ?_
    replace S := S.mono_heap (w' := World.drew _) rfl
    refine WP_drawn (C := fun w => agree M1 w) [1, 2, 3, 5, 7, 8, 9] [1, 2, 3, 5, 7, 8, 9, 0, 4, 6, 10, 11] Try.mixed (by kernel_rfl) S.imm ?_
    refine D_v E rfl rfl rfl (fun w hC => (R_move E rfl)) ?_
    clear E a; intro a E
    refine D_v E rfl rfl rfl (fun w hC => (R_move E rfl)) ?_
    clear E a; intro a E
    obtain ⟨v10, sv10, hv10⟩ := h0.subv 0 ((min x1 (((l0).length : Nat) : Int)).toNat) (by first | omega | (simp; omega) | (simp_all; omega)) (by first | omega | (simp; omega) | (simp_all; omega))
    simp only [List.drop_zero] at hv10
    replace hv10 : RdI M1 v10 ((l0).take ((min x1 (((l0).length : Nat) : Int)).toNat)) := hv10
    refine D_v E rfl rfl rfl (fun w hC => (R_sliceH E rfl rfl T22 sv10 (by omega))) ?_
    clear E a; intro a E
    refine D_v E rfl rfl rfl (fun w hC => (R_move E rfl)) ?_
    clear E a; intro a E
    refine D_v E rfl rfl rfl (fun w hC => (R_move E rfl)) ?_
    clear E a; intro a E
    refine D_v E rfl rfl rfl (fun w hC => (R_move E rfl)) ?_
    clear E a; intro a E
    obtain ⟨v11, sv11, hv11⟩ := h0.subv ((min x1 (((l0).length : Nat) : Int)).toNat) ((l0).length) (by first | omega | (simp; omega) | (simp_all; omega)) (by first | omega | (simp; omega) | (simp_all; omega))
    simp only [List.take_length] at hv11
    replace hv11 : RdI M1 v11 ((l0).drop ((min x1 (((l0).length : Nat) : Int)).toNat)) := hv11
    refine D_v E rfl rfl rfl (fun w hC => (R_sliceL E rfl rfl T22 h0.len sv11 (by omega))) ?_
    clear E a; intro a E
    refine D_x rfl rfl rfl (X_buildI (ys := []) E S rfl T22 rfl rfl rfl ?_)
    clear E a S; rintro a w v12 E S
    refine ⟨(agree_le (Hp.le.refl _) S.imm), ?_⟩
    refine D_x rfl rfl rfl (X_appendI (xs := ([] : List Int)) E S rfl rfl rfl T22 hv10 (by first | omega | (simp; omega) | (simp_all; omega)) ?_)
    clear E a S; rintro a w v13 E S
    refine ⟨(agree_le (Hp.le.refl _) S.imm), ?_⟩
    refine D_x rfl rfl rfl (X_appendI (xs := [] ++ ((l0).take ((min x1 (((l0).length : Nat) : Int)).toNat))) E S rfl rfl rfl T22 h2 (by first | omega | (simp; omega) | (simp_all; omega)) ?_)
    clear E a S; rintro a w v14 E S
    refine ⟨(agree_le (Hp.le.refl _) S.imm), ?_⟩
    refine D_x rfl rfl rfl (X_appendI (xs := ([] ++ ((l0).take ((min x1 (((l0).length : Nat) : Int)).toNat))) ++ l2) E S rfl rfl rfl T22 hv11 (by first | omega | (simp; omega) | (simp_all; omega)) ?_)
    clear E a S; rintro a w v15 E S
    refine ⟨(agree_le (Hp.le.refl _) S.imm), ?_⟩
    refine D_x rfl rfl rfl (X_val E rfl rfl (R_assign E rfl) fun a E => ⟨(agree_le (Hp.le.refl _) S.imm), ?_⟩)
    refine D_end (NoP_n ?_)
    refine T_n ?_
    refine WP_ret ?_
    have S0 := S; clear S
    obtain ⟨M_16, hM_16, hz17, S⟩ := S0.freezeI (by (first | omega | (simp; omega) | (simp; done) | (simp_all; omega) | grind))
    clear S0
    replace h0 := h0.le hM_16
    replace h2 := h2.le hM_16
    replace hv10 := hv10.le hM_16
    replace hv11 := hv11.le hM_16
    exact F_ret1 E Try.results15 rfl ⟨_, rfl, M_16, hM_16, (by rw [show (spliceL l0 x1 l2) = ((([] ++ ((l0).take ((min x1 (((l0).length : Nat) : Int)).toNat))) ++ l2) ++ ((l0).drop ((min x1 (((l0).length : Nat) : Int)).toNat))) from by unfold spliceL; simp only [List.nil_append]; first | (rw [if_neg (by omega)]; have e : min x1.toNat l0.length = (min x1 ↑l0.length).toNat := (by omega); rw [e]; done) | (rw [if_pos (by omega)]; have e : min (x1 + ↑l0.length).toNat l0.length = (min (max (x1 + ↑l0.length) 0) ↑l0.length).toNat := (by omega); rw [e]; done)]; exact hz17), S⟩

set_option maxHeartbeats 4000000 in
theorem laws_eq {M : Hp} {v0 v1 : Value} {l0 l1 : List Int} (h0 : RdI M v0 l0) (h1 : RdI M v1 l1) :
    Pu Try.prog (.func (.func 14) #[] #[]) M [v0, v1] (fun r M' => r = .bool (decide (l0 = l1))) := by
  refine Pu_enter Try.func14 rfl Try.ntmps14 rfl Try.call14 ?_
  intro a w M1 H hM1 S E
  replace h0 := h0.le hM1
  replace h1 := h1.le hM1
  have b0 := h0.bound
  have b1 := h1.bound
  refine WP_seq ?_
  refine WP_region ?_
  refine S_v E rfl (R_assign E rfl) rfl ?_
  clear E a; intro a E
  refine WL_nil ?_
  refine T_n ?_
  refine WP_seq ?_
  refine WP_seq ?_
  refine WP_region ?_
  refine S_v E rfl (R_move E rfl) rfl ?_
  clear E a; intro a E
  refine S_v E rfl (R_lenV E rfl T22 h0.len) rfl ?_
  clear E a; intro a E
  refine S_v E rfl (R_move E rfl) rfl ?_
  clear E a; intro a E
  refine S_v E rfl (R_lenV E rfl T22 h1.len) rfl ?_
  clear E a; intro a E
  refine S_v E rfl (R_neq E rfl rfl) rfl ?_
  clear E a; intro a E
  refine WL_nil ?_
  refine T_n ?_
  refine WP_cond E rfl (fun hc1 => ?_) (fun hc1 => ?_)
  · replace hc1 := of_decide_eq_true hc1
    refine WP_seq ?_
    refine WP_region ?_
    refine S_v E rfl (R_assign E rfl) rfl ?_
    clear E a; intro a E
    refine WL_nil ?_
    refine T_n ?_
    refine WP_ret ?_
    refine T_r ?_
    exact F_ret1 E Try.results14 rfl ⟨_, rfl, M1, (Hp.le.refl _), (bF (by ((try clear S); (try clear E); first | assumption | omega | rfl | (simp; done) | (simp_all; done) | (simp [List.take_add_one, *]; done) | grind [List.take_add_one]))), S⟩
  · replace hc1 := of_decide_eq_false hc1
    refine WP_skip ?_
    refine T_n ?_
    refine WP_seq ?_
    refine WP_seq ?_
    refine WP_region ?_
    refine S_v E rfl (R_move E rfl) rfl ?_
    clear E a; intro a E
    refine S_v E rfl (R_lenV E rfl T22 h0.len) rfl ?_
    clear E a; intro a E
    refine S_v E rfl (R_move E rfl) rfl ?_
    clear E a; intro a E
    refine WL_nil ?_
    refine T_n ?_
    refine WP_block ?_
    refine WP_loop (γ := Nat) (fun (k : Nat) a w => ∃ (M_2 : Hp), Hp.le M1 M_2 ∧ St w M_2 (H) ∧ Env a 26 [] [(0, v0), (1, v1), (12, .int .i64 (((l0).length : Nat) : Int)), (13, .int .i64 ((k : Nat) : Int))] ∧ (k ≤ (l0).length) ∧ (l0.length = l1.length) ∧ (l0.take k = l1.take k)) (fun k => ((l0).length) - k) 0 ⟨M1, Hp.le.refl _, S, E.keep ⟨rfl, rfl, rfl, rfl, trivial⟩, by ((try clear S); (try clear E); first | assumption | omega | rfl | (simp; done) | (simp_all; done) | (simp [List.take_add_one, *]; done) | grind [List.take_add_one]), by ((try clear S); (try clear E); first | assumption | omega | rfl | (simp; done) | (simp_all; done) | (simp [List.take_add_one, *]; done) | grind [List.take_add_one]), by ((try clear S); (try clear E); first | assumption | omega | rfl | (simp; done) | (simp_all; done) | (simp [List.take_add_one, *]; done) | grind [List.take_add_one])⟩ ?_
    try clear E
    try clear S
    try clear a
    try clear w
    rintro k a w ⟨M_2, hM_2, S, E, hL0_0, hL0_1, hL0_2⟩
    replace h0 := h0.le hM_2
    replace h1 := h1.le hM_2
    refine WP_seq ?_
    refine WP_region ?_
    refine S_v E rfl (R_lss E rfl rfl) rfl ?_
    clear E a; intro a E
    refine WL_nil ?_
    refine T_n ?_
    refine WP_seq ?_
    refine WP_cond E rfl (fun hc3 => ?_) (fun hc3 => ?_)
    · replace hc3 := of_decide_eq_true hc3
      refine WP_skip ?_
      refine T_n ?_
      refine WP_seq ?_
      refine WP_block ?_
      refine WP_seq ?_
      refine WP_region ?_
      refine S_v E rfl (R_move E rfl) rfl ?_
      clear E a; intro a E
      refine S_v E rfl (R_assign E rfl) rfl ?_
      clear E a; intro a E
      refine WL_nil ?_
      refine T_n ?_
      refine WP_seq ?_
      replace S := S.mono_heap (w' := World.drew _) rfl
      refine WP_drawn (C := fun w => agree M_2 w) [0, 1, 2, 3, 4, 5, 6, 7, 8] [0, 1, 2, 3, 4, 5, 6, 7, 8] Try.mixed (by kernel_rfl) S.imm ?_
      refine D_v E rfl rfl rfl (fun w hC => (R_move E rfl)) ?_
      clear E a; intro a E
      refine D_v E rfl rfl rfl (fun w hC => (R_move E rfl)) ?_
      clear E a; intro a E
      obtain ⟨x4, hx4⟩ : ∃ x, (l0)[k]? = some x := ⟨_, List.getElem?_eq_getElem (by first | omega | (simp; omega) | (simp_all; omega))⟩
      obtain ⟨p5, hp5, qp5⟩ := h0.at hx4
      refine D_v E rfl rfl rfl (fun w hC => (R_idx E rfl rfl T22 hp5 rfl)) ?_
      clear E a; intro a E
      refine D_v E rfl rfl rfl (fun w hC => (R_loadM E rfl Try.isAgg3 hC qp5)) ?_
      clear E a; intro a E
      refine D_v E rfl rfl rfl (fun w hC => (R_move E rfl)) ?_
      clear E a; intro a E
      refine D_v E rfl rfl rfl (fun w hC => (R_move E rfl)) ?_
      clear E a; intro a E
      obtain ⟨x6, hx6⟩ : ∃ x, (l1)[k]? = some x := ⟨_, List.getElem?_eq_getElem (by first | omega | (simp; omega) | (simp_all; omega))⟩
      obtain ⟨p7, hp7, qp7⟩ := h1.at hx6
      refine D_v E rfl rfl rfl (fun w hC => (R_idx E rfl rfl T22 hp7 rfl)) ?_
      clear E a; intro a E
      refine D_v E rfl rfl rfl (fun w hC => (R_loadM E rfl Try.isAgg3 hC qp7)) ?_
      clear E a; intro a E
      refine D_v E rfl rfl rfl (fun w hC => (R_neq E rfl rfl)) ?_
      clear E a; intro a E
      refine D_end (NoP_n ?_)
      refine T_n ?_
      refine WP_cond E rfl (fun hc8 => ?_) (fun hc8 => ?_)
      · replace hc8 := of_decide_eq_true hc8
        refine WP_seq ?_
        refine WP_region ?_
        refine S_v E rfl (R_assign E rfl) rfl ?_
        clear E a; intro a E
        refine WL_nil ?_
        refine T_n ?_
        refine WP_ret ?_
        refine B_r ?_
        refine T_r ?_
        refine T_r ?_
        refine B_r ?_
        refine T_r ?_
        exact F_ret1 E Try.results14 rfl ⟨_, rfl, M_2, hM_2, (bF (by ((try clear S); (try clear E); first | assumption | omega | rfl | (simp; done) | (simp_all; done) | (simp [List.take_add_one, *]; done) | grind [List.take_add_one]))), S⟩
      · replace hc8 := of_decide_eq_false hc8
        refine WP_skip ?_
        refine B_n ?_
        refine T_n ?_
        refine WP_region ?_
        refine S_v E rfl (R_addx (m := ((k + 1 : Nat) : Int)) E rfl rfl (by omega) (by omega)) rfl ?_
        clear E a; intro a E
        refine S_v E rfl (R_move E rfl) rfl ?_
        clear E a; intro a E
        refine WL_nil ?_
        refine T_n ?_
        exact ⟨k + 1, ⟨M_2, hM_2, S, E.keep ⟨rfl, rfl, rfl, rfl, trivial⟩, by ((try clear S); (try clear E); first | assumption | omega | rfl | (simp; done) | (simp_all; done) | (simp [List.take_add_one, *]; done) | grind [List.take_add_one]), by ((try clear S); (try clear E); first | assumption | omega | rfl | (simp; done) | (simp_all; done) | (simp [List.take_add_one, *]; done) | grind [List.take_add_one]), by ((try clear S); (try clear E); first | assumption | omega | rfl | (simp; done) | (simp_all; done) | (simp [List.take_add_one, *]; done) | grind [List.take_add_one])⟩, by omega⟩
    · replace hc3 := of_decide_eq_false hc3
      refine WP_exit ?_
      refine T_x ?_
      refine T_x ?_
      refine B_x ?_
      refine T_n ?_
      refine WP_seq ?_
      refine WP_region ?_
      refine S_v E rfl (R_assign E rfl) rfl ?_
      clear E a; intro a E
      refine WL_nil ?_
      refine T_n ?_
      refine WP_ret ?_
      exact F_ret1 E Try.results14 rfl ⟨_, rfl, M_2, hM_2, (bT (by ((try clear S); (try clear E); first | assumption | omega | rfl | (simp; done) | (simp_all; done) | (simp [List.take_add_one, *]; done) | grind [List.take_add_one]))), S⟩

set_option maxHeartbeats 4000000 in
theorem laws_both {M : Hp} {v0 v1 : Value} {l0 l1 : List Int} (h0 : RdI M v0 l0) (h1 : RdI M v1 l1)(hb : l0.length + l1.length ≤ 1000000000000) :
    Pu Try.prog (.func (.func 17) #[] #[]) M [v0, v1] (fun r M' => RdI M' r (l0 ++ l1)) := by
  refine Pu_enter Try.func17 rfl Try.ntmps17 rfl Try.call17 ?_
  intro a w M1 H hM1 S E
  replace h0 := h0.le hM1
  replace h1 := h1.le hM1
  have b0 := h0.bound
  have b1 := h1.bound
  refine WP_seq ?_
  refine WP_region ?_
  refine S_v E rfl (R_assign E rfl) rfl ?_
  clear E a; intro a E
  refine WL_nil ?_
  refine T_n ?_
  refine WP_seq ?_
  refine WP_region ?_
  refine S_x (X_buildI (ys := []) E S rfl T22 rfl rfl rfl ?_)
  clear E a S; rintro a w v1 E S
  refine S_v E rfl (R_move E rfl) rfl ?_
  clear E a; intro a E
  refine S_x (X_appendI (xs := ([] : List Int)) E S rfl rfl rfl T22 h0 (by first | omega | (simp; omega) | (simp_all; omega)) ?_)
  clear E a S; rintro a w v2 E S
  refine S_v E rfl (R_move E rfl) rfl ?_
  clear E a; intro a E
  refine S_x (X_appendI (xs := [] ++ l0) E S rfl rfl rfl T22 h1 (by first | omega | (simp; omega) | (simp_all; omega)) ?_)
  clear E a S; rintro a w v3 E S
  refine S_v E rfl (R_assign E rfl) rfl ?_
  clear E a; intro a E
  refine WL_nil ?_
  refine T_n ?_
  refine WP_ret ?_
  have S0 := S; clear S
  obtain ⟨M_4, hM_4, hz5, S⟩ := S0.freezeI (by (first | omega | (simp; omega) | (simp; done) | (simp_all; omega) | grind))
  clear S0
  replace h0 := h0.le hM_4
  replace h1 := h1.le hM_4
  exact F_ret1 E Try.results17 rfl ⟨_, rfl, M_4, hM_4, (by rw [show (l0 ++ l1) = (([] ++ l0) ++ l1) from by ((try clear S); (try clear E); first | rfl | (simp; done) | (simp_all; done) | grind [List.take_add_one])]; exact hz5), S⟩

set_option maxHeartbeats 4000000 in
theorem laws_count {M : Hp} {v0 : Value} {l0 : List Int} (h0 : RdI M v0 l0){x1 : Int} :
    Pu Try.prog (.func (.func 58) #[] #[]) M [v0, .int .i64 x1] (fun r M' => r = .int .i64 (((l0).count x1 : Nat) : Int)) := by
  refine Pu_enter Try.func58 rfl Try.ntmps58 rfl Try.call58 ?_
  intro a w M1 H hM1 S E
  replace h0 := h0.le hM1
  have b0 := h0.bound
  have c0 := List.count_le_length (a := x1) (l := l0)
  refine WP_seq ?_
  refine WP_region ?_
  refine S_v E rfl (R_assign E rfl) rfl ?_
  clear E a; intro a E
  refine WL_nil ?_
  refine T_n ?_
  refine WP_seq ?_
  refine WP_region ?_
  refine S_v E rfl (R_assign E rfl) rfl ?_
  clear E a; intro a E
  refine WL_nil ?_
  refine T_n ?_
  refine WP_seq ?_
  refine WP_seq ?_
  refine WP_region ?_
  refine S_v E rfl (R_move E rfl) rfl ?_
  clear E a; intro a E
  refine S_v E rfl (R_lenV E rfl T22 h0.len) rfl ?_
  clear E a; intro a E
  refine S_v E rfl (R_move E rfl) rfl ?_
  clear E a; intro a E
  refine WL_nil ?_
  refine T_n ?_
  refine WP_block ?_
  refine WP_loop (γ := Nat) (fun (k : Nat) a w => ∃ (M_1 : Hp), Hp.le M1 M_1 ∧ St w M_1 (H) ∧ Env a 21 [] [(1, .int .i64 x1), (5, .int .i64 (((l0.take k).count x1 : Nat) : Int)), (8, v0), (9, .int .i64 (((l0).length : Nat) : Int)), (10, .int .i64 ((k : Nat) : Int))] ∧ (k ≤ (l0).length)) (fun k => ((l0).length) - k) 0 ⟨M1, Hp.le.refl _, S, E.keep ⟨rfl, look_nat (i := 0) rfl (by ((try clear S); (try clear E); first | assumption | omega | rfl | (simp; done) | (simp_all; done) | (simp [List.take_add_one, *]; done) | grind [List.take_add_one])), rfl, rfl, rfl, trivial⟩, by ((try clear S); (try clear E); first | assumption | omega | rfl | (simp; done) | (simp_all; done) | (simp [List.take_add_one, *]; done) | grind [List.take_add_one])⟩ ?_
  try clear E
  try clear S
  try clear a
  try clear w
  rintro k a w ⟨M_1, hM_1, S, E, hL0_0⟩
  replace h0 := h0.le hM_1
  have c1 := List.count_le_length (a := x1) (l := l0.take k)
  simp only [List.length_take] at c1
  refine WP_seq ?_
  refine WP_region ?_
  refine S_v E rfl (R_lss E rfl rfl) rfl ?_
  clear E a; intro a E
  refine WL_nil ?_
  refine T_n ?_
  refine WP_seq ?_
  refine WP_cond E rfl (fun hc2 => ?_) (fun hc2 => ?_)
  · replace hc2 := of_decide_eq_true hc2
    refine WP_skip ?_
    refine T_n ?_
    refine WP_seq ?_
    refine WP_block ?_
    refine WP_seq ?_
    refine WP_region ?_
    obtain ⟨x3, hx3⟩ : ∃ x, (l0)[k]? = some x := ⟨_, List.getElem?_eq_getElem (by first | omega | (simp; omega) | (simp_all; omega))⟩
    obtain ⟨p4, hp4, qp4⟩ := h0.at hx3
    refine S_v E rfl (R_idx E rfl rfl T22 hp4 rfl) rfl ?_
    clear E a; intro a E
    refine S_v E rfl (R_loadM E rfl Try.isAgg3 S.imm qp4) rfl ?_
    clear E a; intro a E
    refine S_v E rfl (R_assign E rfl) rfl ?_
    clear E a; intro a E
    refine WL_nil ?_
    refine T_n ?_
    refine WP_seq ?_
    refine WP_region ?_
    refine S_v E rfl (R_move E rfl) rfl ?_
    clear E a; intro a E
    refine S_v E rfl (R_move E rfl) rfl ?_
    clear E a; intro a E
    refine S_v E rfl (R_eql E rfl rfl) rfl ?_
    clear E a; intro a E
    refine WL_nil ?_
    refine T_n ?_
    refine WP_cond E rfl (fun hc5 => ?_) (fun hc5 => ?_)
    · replace hc5 := of_decide_eq_true hc5
      refine WP_region ?_
      refine S_v E rfl (R_move E rfl) rfl ?_
      clear E a; intro a E
      refine S_v E rfl (R_addx (m := (((l0.take k).count x1 + 1 : Nat) : Int)) E rfl rfl (by omega) (by omega)) rfl ?_
      clear E a; intro a E
      refine S_v E rfl (R_assign E rfl) rfl ?_
      clear E a; intro a E
      refine WL_nil ?_
      refine B_n ?_
      refine T_n ?_
      refine WP_region ?_
      refine S_v E rfl (R_addx (m := ((k + 1 : Nat) : Int)) E rfl rfl (by omega) (by omega)) rfl ?_
      clear E a; intro a E
      refine S_v E rfl (R_move E rfl) rfl ?_
      clear E a; intro a E
      refine WL_nil ?_
      refine T_n ?_
      exact ⟨k + 1, ⟨M_1, hM_1, S, E.keep ⟨rfl, look_nat (i := (l0.take k).count x1 + 1) rfl (by ((try clear S); (try clear E); first | assumption | omega | rfl | (simp; done) | (simp_all; done) | (simp [List.take_add_one, *]; done) | grind [List.take_add_one])), rfl, rfl, rfl, trivial⟩, by ((try clear S); (try clear E); first | assumption | omega | rfl | (simp; done) | (simp_all; done) | (simp [List.take_add_one, *]; done) | grind [List.take_add_one])⟩, by omega⟩
    · replace hc5 := of_decide_eq_false hc5
      refine WP_skip ?_
      refine B_n ?_
      refine T_n ?_
      refine WP_region ?_
      refine S_v E rfl (R_addx (m := ((k + 1 : Nat) : Int)) E rfl rfl (by omega) (by omega)) rfl ?_
      clear E a; intro a E
      refine S_v E rfl (R_move E rfl) rfl ?_
      clear E a; intro a E
      refine WL_nil ?_
      refine T_n ?_
      exact ⟨k + 1, ⟨M_1, hM_1, S, E.keep ⟨rfl, look_nat (i := (l0.take k).count x1) rfl (by ((try clear S); (try clear E); first | assumption | omega | rfl | (simp; done) | (simp_all; done) | (simp [List.take_add_one, *]; done) | grind [List.take_add_one])), rfl, rfl, rfl, trivial⟩, by ((try clear S); (try clear E); first | assumption | omega | rfl | (simp; done) | (simp_all; done) | (simp [List.take_add_one, *]; done) | grind [List.take_add_one])⟩, by omega⟩
  · replace hc2 := of_decide_eq_false hc2
    refine WP_exit ?_
    refine T_x ?_
    refine T_x ?_
    refine B_x ?_
    refine T_n ?_
    refine WP_seq ?_
    refine WP_region ?_
    refine S_v E rfl (R_move E rfl) rfl ?_
    clear E a; intro a E
    refine S_v E rfl (R_assign E rfl) rfl ?_
    clear E a; intro a E
    refine WL_nil ?_
    refine T_n ?_
    refine WP_ret ?_
    exact F_ret1 E Try.results58 rfl ⟨_, rfl, M_1, hM_1, (congrArg (Value.int .i64) (by ((try clear S); (try clear E); first | assumption | omega | rfl | (simp; done) | (simp_all; done) | (simp [List.take_add_one, *]; done) | grind [List.take_add_one]))), S⟩

set_option maxHeartbeats 4000000 in
theorem laws_same {M : Hp} {v0 v1 : Value} {l0 l1 : List Int} (h0 : RdI M v0 l0) (h1 : RdI M v1 l1) :
    Pu Try.prog (.func (.func 16) #[] #[]) M [v0, v1] (fun r M' => r = .bool (decide (l0.length = l1.length ∧ ∀ x ∈ l0, l0.count x = l1.count x))) := by
  refine Pu_enter Try.func16 rfl Try.ntmps16 rfl Try.call16 ?_
  intro a w M1 H hM1 S E
  replace h0 := h0.le hM1
  replace h1 := h1.le hM1
  have b0 := h0.bound
  have b1 := h1.bound
  refine WP_seq ?_
  refine WP_region ?_
  refine S_v E rfl (R_assign E rfl) rfl ?_
  clear E a; intro a E
  refine WL_nil ?_
  refine T_n ?_
  refine WP_seq ?_
  refine WP_seq ?_
  refine WP_region ?_
  refine S_v E rfl (R_move E rfl) rfl ?_
  clear E a; intro a E
  refine S_v E rfl (R_lenV E rfl T22 h0.len) rfl ?_
  clear E a; intro a E
  refine S_v E rfl (R_move E rfl) rfl ?_
  clear E a; intro a E
  refine S_v E rfl (R_lenV E rfl T22 h1.len) rfl ?_
  clear E a; intro a E
  refine S_v E rfl (R_neq E rfl rfl) rfl ?_
  clear E a; intro a E
  refine WL_nil ?_
  refine T_n ?_
  refine WP_cond E rfl (fun hc1 => ?_) (fun hc1 => ?_)
  · replace hc1 := of_decide_eq_true hc1
    refine WP_seq ?_
    refine WP_region ?_
    refine S_v E rfl (R_assign E rfl) rfl ?_
    clear E a; intro a E
    refine WL_nil ?_
    refine T_n ?_
    refine WP_ret ?_
    refine T_r ?_
    exact F_ret1 E Try.results16 rfl ⟨_, rfl, M1, (Hp.le.refl _), (bF (by ((try clear S); (try clear E); first | assumption | omega | rfl | (simp; done) | (simp_all; done) | (simp [List.take_add_one, *]; done) | grind [List.take_add_one]))), S⟩
  · replace hc1 := of_decide_eq_false hc1
    refine WP_skip ?_
    refine T_n ?_
    refine WP_seq ?_
    refine WP_seq ?_
    refine WP_region ?_
    refine S_v E rfl (R_move E rfl) rfl ?_
    clear E a; intro a E
    refine S_v E rfl (R_lenV E rfl T22 h0.len) rfl ?_
    clear E a; intro a E
    refine S_v E rfl (R_move E rfl) rfl ?_
    clear E a; intro a E
    refine WL_nil ?_
    refine T_n ?_
    refine WP_block ?_
    refine WP_loop (γ := Nat) (fun (k : Nat) a w => ∃ (M_2 : Hp), Hp.le M1 M_2 ∧ St w M_2 (H) ∧ Env a 26 [] [(0, v0), (1, v1), (12, v0), (13, .int .i64 (((l0).length : Nat) : Int)), (14, .int .i64 ((k : Nat) : Int))] ∧ (k ≤ (l0).length) ∧ (l0.length = l1.length) ∧ (∀ x ∈ l0.take k, l0.count x = l1.count x)) (fun k => ((l0).length) - k) 0 ⟨M1, Hp.le.refl _, S, E.keep ⟨rfl, rfl, rfl, rfl, rfl, trivial⟩, by ((try clear S); (try clear E); first | assumption | omega | rfl | (simp; done) | (simp_all; done) | (simp [List.take_add_one, *]; done) | grind [List.take_add_one]), by ((try clear S); (try clear E); first | assumption | omega | rfl | (simp; done) | (simp_all; done) | (simp [List.take_add_one, *]; done) | grind [List.take_add_one]), by ((try clear S); (try clear E); first | assumption | omega | rfl | (simp; done) | (simp_all; done) | (simp [List.take_add_one, *]; done) | grind [List.take_add_one])⟩ ?_
    try clear E
    try clear S
    try clear a
    try clear w
    rintro k a w ⟨M_2, hM_2, S, E, hL0_0, hL0_1, hL0_2⟩
    replace h0 := h0.le hM_2
    replace h1 := h1.le hM_2
    refine WP_seq ?_
    refine WP_region ?_
    refine S_v E rfl (R_lss E rfl rfl) rfl ?_
    clear E a; intro a E
    refine WL_nil ?_
    refine T_n ?_
    refine WP_seq ?_
    refine WP_cond E rfl (fun hc3 => ?_) (fun hc3 => ?_)
    · replace hc3 := of_decide_eq_true hc3
      refine WP_skip ?_
      refine T_n ?_
      refine WP_seq ?_
      refine WP_block ?_
      refine WP_seq ?_
      refine WP_region ?_
      obtain ⟨x4, hx4⟩ : ∃ x, (l0)[k]? = some x := ⟨_, List.getElem?_eq_getElem (by first | omega | (simp; omega) | (simp_all; omega))⟩
      obtain ⟨p5, hp5, qp5⟩ := h0.at hx4
      refine S_v E rfl (R_idx E rfl rfl T22 hp5 rfl) rfl ?_
      clear E a; intro a E
      refine S_v E rfl (R_loadM E rfl Try.isAgg3 S.imm qp5) rfl ?_
      clear E a; intro a E
      refine S_v E rfl (R_assign E rfl) rfl ?_
      clear E a; intro a E
      refine WL_nil ?_
      refine T_n ?_
      refine WP_seq ?_
      refine WP_region ?_
      refine S_v E rfl (R_move E rfl) rfl ?_
      clear E a; intro a E
      refine S_v E rfl (R_move E rfl) rfl ?_
      clear E a; intro a E
      refine S_x (X_pu E S rfl rfl rfl (laws_count h0) (Hp.le.refl _) ?_)
      clear E a S; rintro a _ w M_6 hM_6 rfl S E
      replace h0 := h0.le hM_6
      replace h1 := h1.le hM_6
      refine S_v E rfl (R_move E rfl) rfl ?_
      clear E a; intro a E
      refine S_v E rfl (R_move E rfl) rfl ?_
      clear E a; intro a E
      refine S_x (X_pu E S rfl rfl rfl (laws_count h1) (Hp.le.refl _) ?_)
      clear E a S; rintro a _ w M_7 hM_7 rfl S E
      replace h0 := h0.le hM_7
      replace h1 := h1.le hM_7
      refine S_v E rfl (R_neq E rfl rfl) rfl ?_
      clear E a; intro a E
      refine WL_nil ?_
      refine T_n ?_
      refine WP_cond E rfl (fun hc8 => ?_) (fun hc8 => ?_)
      · replace hc8 := of_decide_eq_true hc8
        refine WP_seq ?_
        refine WP_region ?_
        refine S_v E rfl (R_assign E rfl) rfl ?_
        clear E a; intro a E
        refine WL_nil ?_
        refine T_n ?_
        refine WP_ret ?_
        refine B_r ?_
        refine T_r ?_
        refine T_r ?_
        refine B_r ?_
        refine T_r ?_
        exact F_ret1 E Try.results16 rfl ⟨_, rfl, M_7, (hM_2.trans (hM_6.trans hM_7)), (bF (by ((try clear S); (try clear E); first | assumption | omega | rfl | (simp; done) | (simp_all; done) | (simp [List.take_add_one, *]; done) | grind [List.take_add_one]))), S⟩
      · replace hc8 := of_decide_eq_false hc8
        refine WP_skip ?_
        refine B_n ?_
        refine T_n ?_
        refine WP_region ?_
        refine S_v E rfl (R_addx (m := ((k + 1 : Nat) : Int)) E rfl rfl (by omega) (by omega)) rfl ?_
        clear E a; intro a E
        refine S_v E rfl (R_move E rfl) rfl ?_
        clear E a; intro a E
        refine WL_nil ?_
        refine T_n ?_
        exact ⟨k + 1, ⟨M_7, (hM_2.trans (hM_6.trans hM_7)), S, E.keep ⟨rfl, rfl, rfl, rfl, rfl, trivial⟩, by ((try clear S); (try clear E); first | assumption | omega | rfl | (simp; done) | (simp_all; done) | (simp [List.take_add_one, *]; done) | grind [List.take_add_one]), by ((try clear S); (try clear E); first | assumption | omega | rfl | (simp; done) | (simp_all; done) | (simp [List.take_add_one, *]; done) | grind [List.take_add_one]), by ((try clear S); (try clear E); first | assumption | omega | rfl | (simp; done) | (simp_all; done) | (simp [List.take_add_one, *]; done) | grind [List.take_add_one])⟩, by omega⟩
    · replace hc3 := of_decide_eq_false hc3
      refine WP_exit ?_
      refine T_x ?_
      refine T_x ?_
      refine B_x ?_
      refine T_n ?_
      refine WP_seq ?_
      refine WP_region ?_
      refine S_v E rfl (R_assign E rfl) rfl ?_
      clear E a; intro a E
      refine WL_nil ?_
      refine T_n ?_
      refine WP_ret ?_
      exact F_ret1 E Try.results16 rfl ⟨_, rfl, M_2, hM_2, (bT (by ((try clear S); (try clear E); first | assumption | omega | rfl | (simp; done) | (simp_all; done) | (simp [List.take_add_one, *]; done) | grind [List.take_add_one]))), S⟩

set_option maxHeartbeats 4000000 in
theorem laws_FnSpliceAny {M : Hp} {v0 v2 : Value} {l0 l2 : List Int} (h0 : RdI M v0 l0) (h2 : RdI M v2 l2){x1 : Int} (g1 : -128 ≤ x1 ∧ x1 ≤ 127) :
    PuC Try.prog 3 M [v0, .int .i8 x1, v2] (fun r M' => r = .bool true) := by
  refine PuC_enter Try.func3 rfl Try.ntmps3 rfl ?_
  intro a w M1 H hM1 S E
  replace h0 := h0.le hM1
  replace h2 := h2.le hM1
  have b0 := h0.bound
  have b2 := h2.bound
  refine WP_seq ?_
  refine WP_region ?_
  refine S_v E rfl (R_assign E rfl) rfl ?_
  clear E a; intro a E
  refine WL_nil ?_
  refine T_n ?_
  refine WP_seq ?_
  refine WP_seq ?_
  refine WP_region ?_
  refine S_v E rfl (R_move E rfl) rfl ?_
  clear E a; intro a E
  refine S_v E rfl (R_lenV E rfl T22 h0.len) rfl ?_
  clear E a; intro a E
  refine S_v E rfl (R_gtr E rfl rfl) rfl ?_
  clear E a; intro a E
  refine S_v E rfl (R_move E rfl) rfl ?_
  clear E a; intro a E
  refine split_bool (decide (2147483647 < (((l0).length : Nat) : Int))) (fun hc1 => ?_) (fun hc1 => ?_)
  · rw [hc1] at E
    replace hc1 := of_decide_eq_true hc1
    refine WL_guard_no E rfl rfl rfl rfl fun a E => ?_
    refine WL_guard_no E rfl rfl rfl rfl fun a E => ?_
    refine WL_guard_no E rfl rfl rfl rfl fun a E => ?_
    refine S_v E rfl (R_pickT E rfl rfl) rfl ?_
    clear E a; intro a E
    refine WL_nil ?_
    refine T_n ?_
    refine WP_condT E rfl rfl ?_
    refine WP_seq ?_
    refine WP_region ?_
    refine S_v E rfl (R_assign E rfl) rfl ?_
    clear E a; intro a E
    refine WL_nil ?_
    refine T_n ?_
    refine WP_ret ?_
    refine T_r ?_
    exact F_ret1 E Try.results3 rfl ⟨_, rfl, M1, (Hp.le.refl _), rfl, S⟩
  · rw [hc1] at E
    replace hc1 := of_decide_eq_false hc1
    refine WL_guard_yes E rfl rfl ?_
    refine S_v E rfl (R_move E rfl) rfl ?_
    clear E a; intro a E
    refine WL_guard_yes E rfl rfl ?_
    refine S_v E rfl (R_lenV E rfl T22 h2.len) rfl ?_
    clear E a; intro a E
    refine WL_guard_yes E rfl rfl ?_
    refine S_v E rfl (R_gtr E rfl rfl) rfl ?_
    clear E a; intro a E
    refine S_v E rfl (R_pickF E rfl rfl) rfl ?_
    clear E a; intro a E
    refine WL_nil ?_
    refine T_n ?_
    refine WP_cond E rfl (fun hc2 => ?_) (fun hc2 => ?_)
    · replace hc2 := of_decide_eq_true hc2
      refine WP_seq ?_
      refine WP_region ?_
      refine S_v E rfl (R_assign E rfl) rfl ?_
      clear E a; intro a E
      refine WL_nil ?_
      refine T_n ?_
      refine WP_ret ?_
      refine T_r ?_
      exact F_ret1 E Try.results3 rfl ⟨_, rfl, M1, (Hp.le.refl _), rfl, S⟩
    · replace hc2 := of_decide_eq_false hc2
      refine WP_skip ?_
      refine T_n ?_
      refine WP_seq ?_
      refine WP_seq ?_
      refine WP_region ?_
      refine S_x (X_buildI (ys := [1]) E S rfl T22 rfl rfl rfl ?_)
      clear E a S; rintro a w v3 E S
      refine S_x (X_buildI (ys := [2]) E S rfl T22 rfl rfl rfl ?_)
      clear E a S; rintro a w v4 E S
      replace S := S.front1
      have S0 := S; clear S
      obtain ⟨M_5, hM_5, hz6, S⟩ := S0.freezeI (by (first | omega | (simp; omega) | (simp; done) | (simp_all; omega) | grind))
      clear S0
      replace h0 := h0.le hM_5
      replace h2 := h2.le hM_5
      have S0 := S; clear S
      obtain ⟨M_7, hM_7, hz8, S⟩ := S0.freezeI (by (first | omega | (simp; omega) | (simp; done) | (simp_all; omega) | grind))
      clear S0
      replace h0 := h0.le hM_7
      replace h2 := h2.le hM_7
      replace hz6 := hz6.le hM_7
      refine S_x (X_pu E S rfl rfl rfl (impl_Splice hz6 hz8 (by (first | omega | (simp; omega) | (simp; done) | (simp_all; omega) | grind)) (by (first | omega | (simp; omega) | (simp; done) | (simp_all; omega) | grind))) (Hp.le.refl _) ?_)
      clear E a S; rintro a v10 w M_9 hM_9 hv10 S E
      replace h0 := h0.le hM_9
      replace h2 := h2.le hM_9
      replace hz6 := hz6.le hM_9
      replace hz8 := hz8.le hM_9
      refine S_v E rfl (R_lenV E rfl T22 hv10.len) rfl ?_
      clear E a; intro a E
      refine S_v E rfl (R_neq E rfl rfl) rfl ?_
      clear E a; intro a E
      refine WL_nil ?_
      refine T_n ?_
      have hc11 : (decide ((((spliceL [1] 1 [2]).length : Nat) : Int) ≠ 2)) = false := by simp [spliceL]
      refine WP_condF E rfl hc11 ?_
      refine WP_skip ?_
      refine T_n ?_
      refine WP_seq ?_
      refine WP_seq ?_
      refine WP_region ?_
      refine S_v E rfl (R_move E rfl) rfl ?_
      clear E a; intro a E
      refine S_v E rfl (R_move E rfl) rfl ?_
      clear E a; intro a E
      refine S_x (X_buildM (R := RSl 1 RInt) (vs := [v0, v2]) (xs := [l0, l2]) (RSl_mono RInt_mono) E S rfl T31 rfl rfl rfl (by intro u hu; simp only [List.mem_cons, List.not_mem_nil, or_false] at hu; rcases hu with rfl | rfl <;> first | exact RdI.one h0 | exact RdI.one h2 | rfl) rfl (rowsC (R := RSl 1 RInt) (RdI.row h0) (rowsC (R := RSl 1 RInt) (RdI.row h2) rowsN)) ?_)
      clear E a S; rintro a v12 w M_13 hM_13 hv12 S E
      replace hv12 : RdII M_13 v12 [l0, l2] := hv12
      replace h0 := h0.le hM_13
      replace h2 := h2.le hM_13
      replace hz6 := hz6.le hM_13
      replace hz8 := hz8.le hM_13
      replace hv10 := hv10.le hM_13
      refine S_x (X_pu E S rfl rfl rfl (laws_few hv12) (Hp.le.refl _) ?_)
      clear E a S; rintro a _ w M_14 hM_14 rfl S E
      replace h0 := h0.le hM_14
      replace h2 := h2.le hM_14
      replace hz6 := hz6.le hM_14
      replace hz8 := hz8.le hM_14
      replace hv10 := hv10.le hM_14
      replace hv12 := hv12.le hM_14
      refine S_v E rfl (R_not E rfl) rfl ?_
      clear E a; intro a E
      refine WL_nil ?_
      refine T_n ?_
      refine WP_cond E rfl (fun hc15 => ?_) (fun hc15 => ?_)
      · refine WP_seq ?_
        refine WP_region ?_
        refine S_v E rfl (R_assign E rfl) rfl ?_
        clear E a; intro a E
        refine WL_nil ?_
        refine T_n ?_
        refine WP_ret ?_
        refine T_r ?_
        exact F_ret1 E Try.results3 rfl ⟨_, rfl, M_14, (hM_5.trans (hM_7.trans (hM_9.trans (hM_13.trans hM_14)))), rfl, S⟩
      · refine WP_skip ?_
        refine T_n ?_
        refine WP_seq ?_
        refine WP_region ?_
        refine S_v E rfl (R_move E rfl) rfl ?_
        clear E a; intro a E
        refine S_v E rfl (R_move E rfl) rfl ?_
        clear E a; intro a E
        refine S_v E rfl (R_convx E rfl Try.underlying23 Try.underlying3 (by omega)) rfl ?_
        clear E a; intro a E
        refine S_v E rfl (R_move E rfl) rfl ?_
        clear E a; intro a E
        refine S_x (X_pu E S rfl rfl rfl (impl_Splice h0 h2 (by (first | omega | (simp; omega) | (simp; done) | (simp_all; omega) | grind)) (by (first | omega | (simp; omega) | (simp; done) | (simp_all; omega) | grind))) (Hp.le.refl _) ?_)
        clear E a S; rintro a v17 w M_16 hM_16 hv17 S E
        replace h0 := h0.le hM_16
        replace h2 := h2.le hM_16
        replace hz6 := hz6.le hM_16
        replace hz8 := hz8.le hM_16
        replace hv10 := hv10.le hM_16
        replace hv12 := hv12.le hM_16
        refine S_v E rfl (R_assign E rfl) rfl ?_
        clear E a; intro a E
        refine WL_nil ?_
        refine T_n ?_
        refine WP_seq ?_
        refine WP_region ?_
        refine S_v E rfl (R_move E rfl) rfl ?_
        clear E a; intro a E
        refine S_v E rfl (R_move E rfl) rfl ?_
        clear E a; intro a E
        refine S_v E rfl (R_move E rfl) rfl ?_
        clear E a; intro a E
        refine S_v E rfl (R_convx E rfl Try.underlying23 Try.underlying3 (by omega)) rfl ?_
        clear E a; intro a E
        refine S_v E rfl (R_move E rfl) rfl ?_
        clear E a; intro a E
        refine S_x (X_pu E S rfl rfl rfl (spec_Splice h0 h2 (by (first | omega | (simp; omega) | (simp; done) | (simp_all; omega) | grind)) (by (first | omega | (simp; omega) | (simp; done) | (simp_all; omega) | grind))) (Hp.le.refl _) ?_)
        clear E a S; rintro a v19 w M_18 hM_18 hv19 S E
        replace h0 := h0.le hM_18
        replace h2 := h2.le hM_18
        replace hz6 := hz6.le hM_18
        replace hz8 := hz8.le hM_18
        replace hv10 := hv10.le hM_18
        replace hv12 := hv12.le hM_18
        replace hv17 := hv17.le hM_18
        refine S_x (X_pu E S rfl rfl rfl (laws_eq hv17 hv19) (Hp.le.refl _) ?_)
        clear E a S; rintro a _ w M_20 hM_20 rfl S E
        replace h0 := h0.le hM_20
        replace h2 := h2.le hM_20
        replace hz6 := hz6.le hM_20
        replace hz8 := hz8.le hM_20
        replace hv10 := hv10.le hM_20
        replace hv12 := hv12.le hM_20
        replace hv17 := hv17.le hM_20
        replace hv19 := hv19.le hM_20
        refine S_v E rfl (R_move E rfl) rfl ?_
        clear E a; intro a E
        refine split_bool (decide (spliceL l0 x1 l2 = spliceL l0 x1 l2)) (fun hc21 => ?_) (fun hc21 => ?_)
        · rw [hc21] at E
          replace hc21 := of_decide_eq_true hc21
          refine WL_guard_yes E rfl rfl ?_
          refine S_v E rfl (R_move E rfl) rfl ?_
          clear E a; intro a E
          refine WL_guard_yes E rfl rfl ?_
          refine S_v E rfl (R_move E rfl) rfl ?_
          clear E a; intro a E
          refine WL_guard_yes E rfl rfl ?_
          refine S_v E rfl (R_move E rfl) rfl ?_
          clear E a; intro a E
          refine WL_guard_yes E rfl rfl ?_
          refine S_x (X_pu E S rfl rfl rfl (laws_both h0 h2 (by first | omega | (simp; omega) | (simp_all; omega))) (Hp.le.refl _) ?_)
          clear E a S; rintro a v23 w M_22 hM_22 hv23 S E
          replace h0 := h0.le hM_22
          replace h2 := h2.le hM_22
          replace hz6 := hz6.le hM_22
          replace hz8 := hz8.le hM_22
          replace hv10 := hv10.le hM_22
          replace hv12 := hv12.le hM_22
          replace hv17 := hv17.le hM_22
          replace hv19 := hv19.le hM_22
          refine WL_guard_yes E rfl rfl ?_
          refine S_x (X_pu E S rfl rfl rfl (laws_same hv17 hv23) (Hp.le.refl _) ?_)
          clear E a S; rintro a _ w M_24 hM_24 rfl S E
          replace h0 := h0.le hM_24
          replace h2 := h2.le hM_24
          replace hz6 := hz6.le hM_24
          replace hz8 := hz8.le hM_24
          replace hv10 := hv10.le hM_24
          replace hv12 := hv12.le hM_24
          replace hv17 := hv17.le hM_24
          replace hv19 := hv19.le hM_24
          replace hv23 := hv23.le hM_24
          refine S_v E rfl (R_pickT E rfl rfl) rfl ?_
          clear E a; intro a E
          refine S_v E rfl (R_assign E rfl) rfl ?_
          clear E a; intro a E
          refine WL_nil ?_
          refine T_n ?_
          refine WP_ret ?_
          exact F_ret1 E Try.results3 rfl ⟨_, rfl, M_24, (hM_5.trans (hM_7.trans (hM_9.trans (hM_13.trans (hM_14.trans (hM_16.trans (hM_18.trans (hM_20.trans (hM_22.trans hM_24))))))))), (congrArg Value.bool (by first | rfl | exact decide_eq_true (splice_same _ _ _) | (simp_all; done))), S⟩
        · rw [hc21] at E
          replace hc21 := of_decide_eq_false hc21
          refine WL_guard_no E rfl rfl rfl rfl fun a E => ?_
          refine WL_guard_no E rfl rfl rfl rfl fun a E => ?_
          refine WL_guard_no E rfl rfl rfl rfl fun a E => ?_
          refine WL_guard_no E rfl rfl rfl rfl fun a E => ?_
          refine WL_guard_no E rfl rfl rfl rfl fun a E => ?_
          refine S_v E rfl (R_pickF E rfl rfl) rfl ?_
          clear E a; intro a E
          refine S_v E rfl (R_assign E rfl) rfl ?_
          clear E a; intro a E
          refine WL_nil ?_
          refine T_n ?_
          refine WP_ret ?_
          exact F_ret1 E Try.results3 rfl ⟨_, rfl, M_20, (hM_5.trans (hM_7.trans (hM_9.trans (hM_13.trans (hM_14.trans (hM_16.trans (hM_18.trans hM_20))))))), (congrArg Value.bool (by first | rfl | exact decide_eq_true (splice_same _ _ _) | (simp_all; done))), S⟩

end Go.Proofs.Ytnoekjegpolfoaa.wFnSpliceAny
