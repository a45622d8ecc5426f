import Derived.Test.YtgceicmfefpngaaGreatWFnScriptOwnd
set_option linter.unusedVariables false
set_option linter.unusedSimpArgs false
namespace Go.Proofs.YtgceicmfefpngaaGreat.wFnScriptOwn
open Go Go.Sl
set_option maxRecDepth 100000
set_option maxHeartbeats 4000000
variable {M : Hp} {v0 v1 v2 v3 v4 v5 v6 v7 : Value} {l0 l1 l2 l3 l4 l5 l6 l7 : List Int} {n0 n1 n2 n3 n4 n5 n6 n7 : Nat} {x0 x1 x2 x3 x4 x5 x6 x7 : Int}
theorem yM {M : Hp} {v1 : Value} {l1 : List Int} {v2 : Value} {l2 : List Int} (h2 : Qy M v2 l2) (g2 : 0 < l2.length) (hb : l1.length ≤ 1000000000000) {bx1 bx2 bx3 : Nat} (hbx1 : M bx1 = some (.cells #[v1] 62)) (h1 : Jh Tryz.prog v1 M QB l1) (hbx2 : M bx2 = some (.cells #[v2] 22)) (hbx3 : M bx3 = some (.cells #[.int .i64 ((l2.length : Nat) : Int)] 3)) :
  Jh Tryz.prog (.func (.func 325) #[] #[.pointer (some ⟨bx1, 0, none⟩), .pointer (some ⟨bx2, 0, none⟩), .pointer (some ⟨bx3, 0, none⟩)]) M (QB) (tsR l2 l1) := by
 refine Jw Tryz.func325 Y Tryz.ntmps325 Y Tryz.call325 ?_
 intro y J X a w M1 c H hJM hM1 hY hJ S E
 replace hbx1 := hM1.2 _ _ hbx1
 replace hbx2 := hM1.2 _ _ hbx2
 replace hbx3 := hM1.2 _ _ hbx3
 replace h1 := h1.le hM1
 replace h2 := h2.le hM1
 have b2 := h2.bound
 refine Qs ?_
 refine Qk (QA (cs := #[y]) E S Y Y (cells_one hY.1) ?_)
 clear E a S; rintro a w b1 E S
 obtain ⟨e5, a1, a0, S⟩ := S.freezeB
 replace hbx1 := a1.2 _ _ hbx1
 replace hbx2 := a1.2 _ _ hbx2
 replace hbx3 := a1.2 _ _ hbx3
 replace h1 := h1.le a1
 replace h2 := h2.le a1
 replace hJ := hJM _ _ _ _ a1 hJ
 refine QI ?_
 refine Qk (Ja (cs := #[.int .i64 0]) E S Y Tryz.zeroValue3 Y ?_)
 clear E a S; rintro a w a2 E S
 refine Zp (Qb E Y Tryz.isAgg62 S.imm (Qf hbx1) ?_)
 clear E a; intro a E
 refine ZH ?_
 replace S := S.front2.front1
 replace E := E.keep (l' := [(2, .pointer (some ⟨bx2, 0, none⟩)), (3, .pointer (some ⟨bx3, 0, none⟩)), (4, .pointer (some ⟨b1, 0, none⟩)), (5, .pointer (some ⟨a2, 0, none⟩)), (9, v1)]) ⟨Y, Y, Y, Y, Y, trivial⟩
 replace S := S.front1.front1
 replace S := S.blk_int (j := ((Yi l2 (([] : List Int))).1 : Int)) (by (rfl))
 have S0 := S; clear S; have S := St.pack [Jk a2 (.cells #[.int .i64 ((Yi l2 (([] : List Int))).1 : Int)] 3), c] S0; clear S0
 refine JK (RV := QB) (l := l1) (fun pre M c => ∃ (c0 : Qr), c = Yf [Jk a2 (.cells #[.int .i64 ((Yi l2 (pre)).1 : Int)] 3), c0] ∧ (J ((Yi l2 (pre)).2) M c0)) (fun cd pre M c => cd = .ret ∧ ∃ z, z <+: (tsR l2 l1) ∧ X z M c) E S Y h1 lerf (fun _ _ _ h => by rw [h]; rfl) (by decide) (by rintro _ M M' c hM ⟨c0, rfl, f0⟩; exact ⟨_, rfl, hJM _ _ _ _ hM f0⟩) ⟨_, rfl, Ju hJ (by (rfl))⟩ ?_ ?_ ?_
 clear E S
 ·rintro lb_5 rec_6 pre x _ a w b3 _ G a7 c3 rfl ⟨c0, rfl, f0⟩ E S
  replace E : Env a 64 [] [(10, .int .i64 x), (2, .pointer (some ⟨bx2, 0, none⟩)), (3, .pointer (some ⟨bx3, 0, none⟩)), (4, .pointer (some ⟨b1, 0, none⟩)), (5, .pointer (some ⟨a2, 0, none⟩)), (9, v1)] := E
  replace S := S.swap.unpack2
  have hq0 := Js c3
  replace hbx2 := a7.2 _ _ hbx2
  replace hbx3 := a7.2 _ _ hbx3
  replace h2 := h2.le a7
  replace a0 := a7.2 _ _ a0
  have hpl := c3.length_le; simp at hpl; have hti := tsF_le l2 pre
  refine Qh (Qj E Y ?_)
  clear E a; intro a E
  refine Qz ?_
  replace S := S.front2
  refine rb S ?_
  clear S; intro w S
  refine QW (Je (Je ?_))
  have hbx2k8 := hbx2
  have hbx3k8 := hbx3
  have hb_1k8 := a0
  replace S := S.mono_heap (w' := World.drew _) rfl
  refine Jb (C := fun x w => agree b3 w ∧ (x = 2 → w.heap[a2]? = some (.cells #[.int .i64 ((Yi l2 (pre)).1 : Int)] 3))) (bf := (fun i => [])) [0, 1, 2, 3, 4, 5, 6, 7] [0, 1, 2, 3, 4, 5, 6, 7] Tryz.mixed (by kernel_rfl) (fun x hq => ⟨S.imm, fun _ => (S.mem (.tail _ (.head _)))⟩) ?_
  refine QU E Y (fun w hC => (QL E Y)) fun _ B => QU B Y (fun w hC => (QQ B Y Tryz.isAgg22 hC.1 (Qf hbx2k8))) fun _ D => QU D Y (fun w hC => (ZF D Y (Tryz.isAgg3 _) (Qo (hC.2 Y)))) fun _ F => QU F Y (fun w hC => (QQ F Y Tryz.isAgg3 hC.1 (Qf hbx3k8))) fun _ I => QU I Y (fun w hC => (R_remn (p := (Yi l2 (pre)).1) (q := l2.length) I Y Y (by omega))) ?_
  clear E a B D F I; intro a E
  obtain ⟨e6, c6⟩ : ∃ x, (l2)[((Yi l2 (pre)).1) % l2.length]? = some x := ⟨_, List.getElem?_eq_getElem (by exact Nat.mod_lt _ (by omega))⟩
  obtain ⟨e7, c7, c8⟩ := h2.at c6
  refine QU E Y (fun w hC => (ZO E Y Y QE c7 Y)) fun _ B => QU B Y (fun w hC => (QQ B Y Tryz.isAgg3 hC.1 c8)) fun _ D => QU D Y (fun w hC => (R_eql D Y Y)) ?_
  clear E a B D; intro a E
  refine JI (JH ?_)
  refine JZ ?_
  refine Ql E Y (fun c9 => ?_) (fun c9 => ?_)
  ·refine Qs (QH E Y (Tryz.isAgg3 _) (Qo (S.mem (.tail _ (.head _)))) fun _ B => Qp (m := (((Yi l2 (pre)).1 + 1 : Nat) : Int)) B Y Y ?_)
   clear E a B; intro a E
   replace S := S.front1
   refine Jm (QS E S Y Y (Tryz.sizeOf3 _) Y ?_)
   clear E a S; rintro a w E S
   refine Qz (JO (Ul (zx ?_)))
   replace S := S.front2.front1.front1.front1
   replace S := S.blk_int (j := ((Yi l2 ((pre ++ [x]))).1 : Int)) (by ((rw [tsF_yes (by assumption) (by assumption)]; first | done | simp)))
   have S0 := S; clear S; have S := (St.pack [Jk a2 (.cells #[.int .i64 ((Yi l2 ((pre ++ [x]))).1 : Int)] 3), c0] S0).swap; clear S0
   exact ⟨b3, _, lerf, ⟨_, Y, Ju f0 (by ((rw [tsF_yes (by assumption) (by assumption)]; done)))⟩, S⟩
  ·refine je (QH E Y (Tryz.isAgg3 _) (Qo (S.mem (.tail _ (.head _)))) fun _ B => Qn B Y ?_)
   clear E a B; intro a E
   refine ZH ?_
   refine QN (γ := Nat) (fun (k : Nat) a w => ∃ (a8 : Hp) (cL1 : Qr), Hp.le b3 a8 ∧ St w a8 (lp lb_5 rec_6 .busy none :: Jk a2 (.cells #[.int .i64 ((Yi l2 (pre)).1 : Int)] 3) :: cL1 :: G) ∧ Env a 64 [] [(2, .pointer (some ⟨bx2, 0, none⟩)), (3, .pointer (some ⟨bx3, 0, none⟩)), (4, .pointer (some ⟨b1, 0, none⟩)), (5, .pointer (some ⟨a2, 0, none⟩)), (6, .int .i64 x), (21, .int .i64 ((Yi l2 (pre)).1 : Int)), (22, .int .i64 ((k : Nat) : Int))] ∧ (k ≤ (Yi l2 (pre)).1) ∧ J ((Yi l2 pre).2 ++ UC l2 k) a8 cL1) (fun k => ((Yi l2 (pre)).1) - k) 0 ⟨b3, _, lerf, S, E.keep ⟨Y, Y, Y, Y, Y, Y, Y, trivial⟩, by (omega), Ju f0 (by (simp [UC]))⟩ ?_
   try clear E
   try clear S
   try clear a
   try clear w
   rintro k a w ⟨a8, cL1, a3, S, E, e8, f0⟩
   replace hbx2 := a3.2 _ _ hbx2
   replace hbx3 := a3.2 _ _ hbx3
   replace h2 := h2.le a3
   replace a0 := a3.2 _ _ a0
   refine Qs (Jc E Y Y ?_)
   clear E a; intro a E
   refine ZJ ?_
   refine Ql E Y (fun d0 => ?_) (fun d0 => ?_)
   ·refine YZ (QD 2 E Y ?_)
    clear E a; intro a E
    refine ZJ ?_
    have hbx2k13 := hbx2
    have hbx3k13 := hbx3
    have hb_1k13 := a0
    replace S := S.mono_heap (w' := World.drew _) rfl
    refine Jb (C := fun x w => agree a8 w) (bf := (fun i => [])) [0, 1, 2, 3, 4, 5, 6, 8] [0, 1, 2, 3, 4, 5, 6, 7, 8] Tryz.mixed (by kernel_rfl) (fun x hq => S.imm) ?_
    refine QU E Y (fun w hC => (QQ E Y Tryz.isAgg95 hC (Qf hb_1k13))) fun _ B => QU B Y (fun w hC => (QQ B Y Tryz.isAgg22 hC (Qf hbx2k13))) fun _ D => QU D Y (fun w hC => (QL D Y)) fun _ F => QU F Y (fun w hC => (QQ F Y Tryz.isAgg3 hC (Qf hbx3k13))) fun _ I => QU I Y (fun w hC => (R_remn (p := k) (q := l2.length) I Y Y (by omega))) ?_
    clear E a B D F I; intro a E
    obtain ⟨b8, d1⟩ : ∃ x, (l2)[k % l2.length]? = some x := ⟨_, List.getElem?_eq_getElem (by exact Nat.mod_lt _ (by omega))⟩
    obtain ⟨e9, d2, d3⟩ := h2.at d1
    refine QU E Y (fun w hC => (ZO E Y Y QE d2 Y)) fun _ B => QU B Y (fun w hC => (QQ B Y Tryz.isAgg3 hC d3)) ?_
    clear E a B; intro a E
    replace S := S.front2
    refine ZP Y Y Y (JC (x := b8) E S Y Y Y hY (a1.trans (a7.trans a3)) (by (exact jT (by assumption) (by assumption) (by assumption) (by omega) (by assumption))) Y f0 ?_)
    clear E a S; rintro a w b4 c4 go_18 a6 f0 S E
    replace hbx2 := a6.2 _ _ hbx2
    replace hbx3 := a6.2 _ _ hbx3
    replace h2 := h2.le a6
    replace a0 := a6.2 _ _ a0
    refine ⟨fun x hq hb => (Qu a6 S.imm), ?_⟩
    cases go_18
    ·replace f0 : X ((Yi l2 pre).2 ++ UC l2 k ++ [b8]) b4 c4 := f0
     refine QU E Y (fun w hC => (YN E Y)) ?_
     clear E a; intro a E
     refine JI (JH ?_)
     refine JZ ?_
     refine QY E Y Y ?_
     refine QM (ZC (J_u (ZC (UA (ZC ?_)))))
     replace S := S.front2.drop.front1
     exact ⟨b4, _, (a3.trans a6), ⟨Y, _, (by ((first | exact jT (by assumption) (by assumption) (by assumption) (by omega) (by assumption) | exact jS (by assumption) (by assumption) (by assumption) (by assumption) (by assumption) (by omega) | exact jR (by omega) (by omega) (by assumption)))), f0⟩, S⟩
    ·replace f0 : J ((Yi l2 pre).2 ++ UC l2 k ++ [b8]) b4 c4 := f0
     refine QU E Y (fun w hC => (YN E Y)) ?_
     clear E a; intro a E
     refine JI (JH ?_)
     refine JZ ?_
     refine QF E Y Y ?_
     refine zu (Qp (m := ((k + 1 : Nat) : Int)) E Y Y fun _ B => Qn B Y ?_)
     clear E a B; intro a E
     refine Qz ?_
     replace S := S.front2.front2
     exact ⟨k + 1, ⟨b4, _, (a3.trans a6), S, E.keep ⟨Y, Y, Y, Y, Y, Y, Y, trivial⟩, by (omega), Ju f0 (by (rw [List.append_assoc, ← Wf (by assumption)]))⟩, by omega⟩
   ·refine VJ ?_
    replace S := S.front1
    refine Jm (QS E S Y Y (Tryz.sizeOf3 _) Y ?_)
    clear E a S; rintro a w E S
    refine Zp (Qn E Y fun _ B => Qb B Y Tryz.isAgg22 S.imm (Qf hbx2) ?_)
    clear E a B; intro a E
    obtain ⟨f1, d4⟩ : ∃ x, (l2)[0]? = some x := ⟨_, List.getElem?_eq_getElem (by omega)⟩
    obtain ⟨f2, d5, d6⟩ := h2.at d4
    refine QZ E Y Y QE d5 (by omega) fun _ B => Qb B Y Tryz.isAgg3 S.imm d6 fun _ D => QK D Y Y ?_
    clear E a B D; intro a E
    refine Qz ?_
    refine Ql E Y (fun d7 => ?_) (fun d7 => ?_)
    ·refine Qs (QH E Y (Tryz.isAgg3 _) (Qo (S.mem (.head _))) fun _ B => Qp (m := ((1 : Nat) : Int)) B Y Y ?_)
     clear E a B; intro a E
     refine Jm (QS E S Y Y (Tryz.sizeOf3 _) Y ?_)
     clear E a S; rintro a w E S
     refine Qz (JO (Ul (zx ?_)))
     replace S := S.front2.front1.front1.front1
     replace S := S.blk_int (j := ((Yi l2 ((pre ++ [x]))).1 : Int)) (by ((rw [tsF_b0 (by assumption) (by assumption) (by assumption) (by assumption)]; first | done | simp)))
     have S0 := S; clear S; have S := (St.pack [Jk a2 (.cells #[.int .i64 ((Yi l2 ((pre ++ [x]))).1 : Int)] 3), cL1] S0).swap; clear S0
     exact ⟨a8, _, a3, ⟨_, Y, Ju f0 (by ((rw [tsF_b0 (by assumption) (by assumption) (by assumption) (by assumption)]; first | done | (rw [show k = (Yi l2 pre).1 by omega]))))⟩, S⟩
    ·refine VC (Qb E Y Tryz.isAgg95 S.imm (Qf a0) fun _ B => Qn B Y ?_)
     clear E a B; intro a E
     replace S := S.front2
     refine Qk (JC (x := x) E S Y Y Y hY (a1.trans (a7.trans a3)) (by (exact jS (by assumption) (by assumption) (by assumption) (by assumption) (by assumption) (by omega))) Y f0 ?_)
     clear E a S; rintro a w b5 b9 go_24 a9 f0 S E
     replace hbx2 := a9.2 _ _ hbx2
     replace hbx3 := a9.2 _ _ hbx3
     replace h2 := h2.le a9
     replace a0 := a9.2 _ _ a0
     cases go_24
     ·replace f0 : X ((Yi l2 pre).2 ++ UC l2 k ++ [x]) b5 b9 := f0
      refine Ji E Y ?_
      clear E a; intro a E
      refine Qz ?_
      refine QY E Y Y ?_
      refine QM (ZC ?_)
      replace S := S.front1.drop.front1
      exact ⟨b5, _, (a3.trans a9), ⟨Y, _, (by ((first | exact jT (by assumption) (by assumption) (by assumption) (by omega) (by assumption) | exact jS (by assumption) (by assumption) (by assumption) (by assumption) (by assumption) (by omega) | exact jR (by omega) (by omega) (by assumption)))), f0⟩, S⟩
     ·replace f0 : J ((Yi l2 pre).2 ++ UC l2 k ++ [x]) b5 b9 := f0
      refine Ji E Y ?_
      clear E a; intro a E
      refine Qz ?_
      refine QF E Y Y ?_
      refine Qx (ZK ?_)
      replace S := S.front1.front1.front1
      replace S := S.blk_int (j := ((Yi l2 ((pre ++ [x]))).1 : Int)) (by ((rw [tsF_no (by assumption) (by assumption) (by assumption) (by assumption)]; first | done | simp)))
      have S0 := S; clear S; have S := (St.pack [Jk a2 (.cells #[.int .i64 ((Yi l2 ((pre ++ [x]))).1 : Int)] 3), b9] S0).swap; clear S0
      exact ⟨b5, _, (a3.trans a9), ⟨_, Y, Ju f0 (by ((rw [tsF_no (by assumption) (by assumption) (by assumption) (by assumption)]; first | done | (rw [show k = (Yi l2 pre).1 by omega]))))⟩, S⟩
 ·rintro a w c1 _ D_26 a4 ⟨c0, rfl, f0⟩ S E
  replace S := S.unpack2
  replace hbx2 := a4.2 _ _ hbx2
  replace hbx3 := a4.2 _ _ hbx3
  replace h2 := h2.le a4
  replace a0 := a4.2 _ _ a0
  refine ZK (JZ (Qs (QH E Y (Tryz.isAgg3 _) (Qo (S.mem (.head _))) fun _ B => Qb B Y Tryz.isAgg3 S.imm (Qf hbx3) fun _ D => e_remn (p := (Yi l2 (l1)).1) (q := l2.length) D Y Y (by omega) fun _ F => Wb F Y Y ?_)))
  clear E a B D F; intro a E
  refine Qz ?_
  refine Ql E Y (fun d8 => ?_) (fun d8 => ?_)
  ·refine Qs (QH E Y (Tryz.isAgg3 _) (Qo (S.mem (.head _))) fun _ B => Qn B Y ?_)
   clear E a B; intro a E
   refine ZH ?_
   have hti := tsF_le l2 l1
   refine QN (γ := Nat) (fun (k : Nat) a w => ∃ (b0 : Hp) (cL2 : Qr), Hp.le c1 b0 ∧ St w b0 (Jk a2 (.cells #[.int .i64 ((Yi l2 (l1)).1 : Int)] 3) :: cL2 :: zt (D_26 :: []) :: H) ∧ Env a 64 ((D_26 :: []).map mk) [(2, .pointer (some ⟨bx2, 0, none⟩)), (3, .pointer (some ⟨bx3, 0, none⟩)), (4, .pointer (some ⟨b1, 0, none⟩)), (50, .int .i64 ((Yi l2 (l1)).1 : Int)), (51, .int .i64 ((k : Nat) : Int))] ∧ (k ≤ (Yi l2 (l1)).1) ∧ J ((Yi l2 l1).2 ++ UC l2 k) b0 cL2) (fun k => ((Yi l2 (l1)).1) - k) 0 ⟨c1, _, lerf, S, E.keep ⟨Y, Y, Y, Y, Y, trivial⟩, by (omega), Ju f0 (by (simp [UC]))⟩ ?_
   try clear E
   try clear S
   try clear a
   try clear w
   rintro k a w ⟨b0, cL2, a5, S, E, f3, f0⟩
   replace hbx2 := a5.2 _ _ hbx2
   replace hbx3 := a5.2 _ _ hbx3
   replace h2 := h2.le a5
   replace a0 := a5.2 _ _ a0
   refine Qs (Jc E Y Y ?_)
   clear E a; intro a E
   refine ZJ ?_
   refine Ql E Y (fun d9 => ?_) (fun d9 => ?_)
   ·refine YZ (QD 2 E Y ?_)
    clear E a; intro a E
    refine ZJ ?_
    have hbx2k29 := hbx2
    have hbx3k29 := hbx3
    have hb_1k29 := a0
    replace S := S.mono_heap (w' := World.drew _) rfl
    refine Jb (C := fun x w => agree b0 w) (bf := (fun i => [])) [0, 1, 2, 3, 4, 5, 6, 8] [0, 1, 2, 3, 4, 5, 6, 7, 8] Tryz.mixed (by kernel_rfl) (fun x hq => S.imm) ?_
    refine QU E Y (fun w hC => (QQ E Y Tryz.isAgg95 hC (Qf hb_1k29))) fun _ B => QU B Y (fun w hC => (QQ B Y Tryz.isAgg22 hC (Qf hbx2k29))) fun _ D => QU D Y (fun w hC => (QL D Y)) fun _ F => QU F Y (fun w hC => (QQ F Y Tryz.isAgg3 hC (Qf hbx3k29))) fun _ I => QU I Y (fun w hC => (R_remn (p := k) (q := l2.length) I Y Y (by omega))) ?_
    clear E a B D F I; intro a E
    obtain ⟨b6, e0⟩ : ∃ x, (l2)[k % l2.length]? = some x := ⟨_, List.getElem?_eq_getElem (by exact Nat.mod_lt _ (by omega))⟩
    obtain ⟨f4, e1, e2⟩ := h2.at e0
    refine QU E Y (fun w hC => (ZO E Y Y QE e1 Y)) fun _ B => QU B Y (fun w hC => (QQ B Y Tryz.isAgg3 hC e2)) ?_
    clear E a B; intro a E
    replace S := S.front1
    refine ZP Y Y Y (JC (x := b6) E S Y Y Y hY (a1.trans (a4.trans a5)) (by (exact jR (by omega) (by omega) (by assumption))) Y f0 ?_)
    clear E a S; rintro a w b7 c5 go_34 c2 f0 S E
    refine ⟨fun x hq hb => (Qu c2 S.imm), ?_⟩
    cases go_34
    ·replace f0 : X ((Yi l2 l1).2 ++ UC l2 k ++ [b6]) b7 c5 := f0
     refine QU E Y (fun w hC => (YN E Y)) ?_
     clear E a; intro a E
     refine JI (JH ?_)
     refine JZ ?_
     refine QY E Y Y ?_
     refine QM (ZC (J_u (ZC ?_)))
     replace S := S.front1.drop.front1
     exact QR E S Tryz.results325 (fun w S => ⟨_, Y, b7, _, (a1.trans (a4.trans (a5.trans c2))), .inr ⟨((Yi l2 l1).2 ++ UC l2 k ++ [b6]), (by ((first | exact jT (by assumption) (by assumption) (by assumption) (by omega) (by assumption) | exact jS (by assumption) (by assumption) (by assumption) (by assumption) (by assumption) (by omega) | exact jR (by omega) (by omega) (by assumption)))), f0⟩, S⟩)
    ·replace f0 : J ((Yi l2 l1).2 ++ UC l2 k ++ [b6]) b7 c5 := f0
     refine QU E Y (fun w hC => (YN E Y)) ?_
     clear E a; intro a E
     refine JI (JH ?_)
     refine JZ ?_
     refine QF E Y Y ?_
     refine zu (Qp (m := ((k + 1 : Nat) : Int)) E Y Y fun _ B => Qn B Y ?_)
     clear E a B; intro a E
     refine Qz ?_
     replace S := S.front2.front1.front2
     exact ⟨k + 1, ⟨b7, _, (a5.trans c2), S, E.keep ⟨Y, Y, Y, Y, Y, trivial⟩, by (omega), Ju f0 (by (rw [List.append_assoc, ← Wf (by assumption)]))⟩, by omega⟩
   ·refine JO (Ul (Ul (zx (Yh ?_))))
    replace S := S.drop.front1
    have hpre : (Yi l2 l1).2 ++ UC l2 k = tsR l2 l1 := by (exact ts_end (by omega) (by omega))
    rw [hpre] at f0
    exact QR E S Tryz.results325 (fun w S => ⟨_, Y, b0, _, (a1.trans (a4.trans a5)), .inl f0, S⟩)
  ·refine J_x ?_
   replace S := S.drop.front1
   have hpre : (Yi l2 (l1)).2 = tsR l2 l1 := by (exact ts_end0 (by omega))
   rw [hpre] at f0
   exact QR E S Tryz.results325 (fun w S => ⟨_, Y, c1, _, (a1.trans a4), .inl f0, S⟩)
 ·rintro a w e3 c_ D_36 f5 _ e4 f6 ⟨rfl, z_, hz_, f0⟩ S E
  refine QM (ZC (UA ?_))
  replace S := S.front1
  exact QR E S Tryz.results325 (fun w S => ⟨_, Y, e3, _, (a1.trans e4), .inr ⟨z_, (by assumption), f0⟩, S⟩)
theorem it_TrimSuffix {M : Hp} {v0 : Value} {l0 : List Int} (h0 : Jh Tryz.prog v0 M (QB) l0){v1 : Value} {l1 : List Int} (h1 : Qy M v1 l1) (hb : l0.length ≤ 1000000000000)(hbl : ∀ j x, 0 < j → l1[0]? = some x → ¬ l1[j]? = some x) :
  Pu Tryz.prog (.func (.func 296) #[] #[]) M [v0, v1] (fun r M' => Jh Tryz.prog r M' QB (trimS l1 l0)) := by
 refine Qd Tryz.func296 Y Tryz.ntmps296 Y Tryz.call296 ?_
 intro a w M1 H hM1 S E
 replace h0 := h0.le hM1
 replace h1 := h1.le hM1
 refine Qs ?_
 refine Qk (QA (cs := #[v0]) E S Y Y (cells_one h0.1) ?_)
 clear E a S; rintro a w a9 E S
 obtain ⟨b0, a3, a0, S⟩ := S.freezeB
 replace h0 := h0.le a3
 replace h1 := h1.le a3
 refine Qk (QA (cs := #[v1]) E S Y Y (cells_one (QX.one' h1)) ?_)
 clear E a S; rintro a w b1 E S
 obtain ⟨a5, a1, a4, S⟩ := S.freezeB
 replace h0 := h0.le a1
 replace h1 := h1.le a1
 replace a0 := a1.2 _ _ a0
 refine Qj E Y fun _ B => QI (Qb B Y Tryz.isAgg22 S.imm (Qf a4) fun _ C => Qt C Y QE h1.len ?_)
 clear E a B C; intro a E
 refine Qk (Ja (cs := #[.int .i64 0]) E S Y Tryz.zeroValue3 Y ?_)
 clear E a S; rintro a w b2 E S
 refine Jm (QS E S Y Y (Tryz.sizeOf3 _) Y ?_)
 clear E a S; rintro a w E S
 refine Zp (QH E Y (Tryz.isAgg3 _) (Qo (S.mem (.head _))) fun _ B => QK B Y Y ?_)
 clear E a B; intro a E
 refine Qz ?_
 refine Ql E Y (fun a6 => ?_) (fun a6 => ?_)
 ·refine Qs (Qb E Y Tryz.isAgg62 S.imm (Qf a0) fun _ B => Qj B Y ?_)
  clear E a B; intro a E
  refine UJ ?_
  exact Qa E Tryz.results296 Y ⟨_, Y, a5, (a3.trans a1), (Jy h0 (by (exact (Gq (by omega)).symm))), S.drop⟩
 ·refine VC ?_
  have S0 := S; clear S
  obtain ⟨a7, a2, a8, S⟩ := S0.freezeB
  clear S0
  replace h0 := h0.le a2
  replace h1 := h1.le a2
  replace a0 := a2.2 _ _ a0
  replace a4 := a2.2 _ _ a4
  refine Qv E Y Y fun _ B => Qj B Y ?_
  clear E a B; intro a E
  refine Jj ?_
  exact Qa E Tryz.results296 Y ⟨_, Y, a7, (a3.trans (a1.trans a2)), (Jy (yM h1 (by omega) (by (omega)) a0 h0 a4 a8) (by (exact tsR_trimS (by omega) hbl _))), S⟩
theorem qc {M : Hp} {v0 v1 : Value} {l0 l1 : List Int} (h0 : Qy M v0 l0) (h1 : Qy M v1 l1) (hb : l0.length ≤ 1000000000000)(hbl : ∀ j x, 0 < j → l1[0]? = some x → ¬ l1[j]? = some x) :
  Pu Tryz.prog (.func (.func 216) #[] #[]) M [v0, v1] (fun r M' => Qy M' r (trimS l1 l0)) := by
 refine Qd Tryz.func216 Y Tryz.ntmps216 Y Tryz.call216 ?_
 intro a w M1 H hM1 S E
 replace h0 := h0.le hM1
 replace h1 := h1.le hM1
 have b0 := h0.bound
 have b1 := h1.bound
 have htl := trimS_le l1 l0
 refine Qs (Qj E Y fun _ B => QI (Qn B Y ?_))
 clear E a B; intro a E
 refine Qk (Qm E S Y Y Y (QG h0) lerf ?_)
 clear E a S; rintro a a7 w a8 a0 a1 S E
 replace h0 := h0.le a0
 replace h1 := h1.le a0
 refine Qn E Y ?_
 clear E a; intro a E
 refine Qk (Qm E S Y Y Y (it_TrimSuffix a1 h1 (by (omega)) (by assumption)) lerf ?_)
 clear E a S; rintro a a9 w b2 a2 a3 S E
 refine Qk (Qm E S Y Y Y (QJ a3 (by omega)) lerf ?_)
 clear E a S; rintro a b3 w a4 a5 a6 S E
 refine Qj E Y ?_
 clear E a; intro a E
 refine Jj ?_
 exact Qa E Tryz.results216 Y ⟨_, Y, a4, (a0.trans (a2.trans a5)), a6, S⟩
theorem it_CutSuffix {M : Hp} {v0 : Value} {l0 : List Int} (h0 : Jh Tryz.prog v0 M (QB) l0){v1 : Value} {l1 : List Int} (h1 : Qy M v1 l1) (hb : l0.length ≤ 1000000000000) :
  Pu Tryz.prog (.func (.func 297) #[] #[]) M [v0, v1] (fun r M' => ∃ t0, r = .tuple #[t0, .bool (Vv l0 l1)] ∧ Jh Tryz.prog t0 M' QB (Gg l0 l1)) := by
 refine Qd Tryz.func297 Y Tryz.ntmps297 Y Tryz.call297 ?_
 intro a w M1 H hM1 S E
 replace h0 := h0.le hM1
 replace h1 := h1.le hM1
 have hcl := GG l0 l1
 refine Qs (QD 2 E Y fun _ B => QI (Qn B Y ?_))
 clear E a B; intro a E
 refine Qk (Qm E S Y Y Y (QJ h0 (by omega)) lerf ?_)
 clear E a S; rintro a a7 w a8 a0 a1 S E
 replace h1 := h1.le a0
 refine Qj E Y fun _ B => QI (QD 2 B Y ?_)
 clear E a B; intro a E
 refine Qk (Qm E S Y Y Y (qN a1 h1 (by (omega))) lerf ?_)
 clear E a S; rintro a _ w a9 a2 ⟨b0, rfl, a3⟩ S E
 refine Qn E Y fun _ B => Qg B Y Y fun _ C => Qg C Y Y fun _ D => QD 2 D Y fun _ F => QI (Qn F Y ?_)
 clear E a B C D F; intro a E
 refine Qk (Qm E S Y Y Y (QG a3) lerf ?_)
 clear E a S; rintro a b1 w a4 a5 a6 S E
 refine QD 3 E Y ?_
 clear E a; intro a E
 refine Jj ?_
 exact Zr E Tryz.results297 Y Y ⟨_, Y, a4, (a0.trans (a2.trans a5)), ⟨_, (by rfl), a6⟩, S⟩
theorem zc {M : Hp} {v0 v1 : Value} {l0 l1 : List Int} (h0 : Qy M v0 l0) (h1 : Qy M v1 l1) (hb : l0.length ≤ 1000000000000) :
  Pu Tryz.prog (.func (.func 217) #[] #[]) M [v0, v1] (fun r M' => ∃ t0, r = .tuple #[t0, .bool (Vv l0 l1)] ∧ Qy M' t0 (Gg l0 l1)) := by
 refine Qd Tryz.func217 Y Tryz.ntmps217 Y Tryz.call217 ?_
 intro a w M1 H hM1 S E
 replace h0 := h0.le hM1
 replace h1 := h1.le hM1
 have b0 := h0.bound
 have b1 := h1.bound
 have hcl := GG l0 l1
 refine Qs (QD 2 E Y fun _ B => QI (Qn B Y ?_))
 clear E a B; intro a E
 refine Qk (Qm E S Y Y Y (QG h0) lerf ?_)
 clear E a S; rintro a a7 w a8 a0 a1 S E
 replace h1 := h1.le a0
 refine Qn E Y ?_
 clear E a; intro a E
 refine Qk (Qm E S Y Y Y (it_CutSuffix a1 h1 (by (omega))) lerf ?_)
 clear E a S; rintro a _ w a9 a2 ⟨b2, rfl, a3⟩ S E
 refine Qn E Y fun _ B => Qg B Y Y fun _ C => Qg C Y Y fun _ D => QD 2 D Y fun _ F => QI (Qn F Y ?_)
 clear E a B C D F; intro a E
 refine Qk (Qm E S Y Y Y (QJ a3 (by omega)) lerf ?_)
 clear E a S; rintro a b3 w a4 a5 a6 S E
 refine QD 3 E Y ?_
 clear E a; intro a E
 refine Jj ?_
 exact Zr E Tryz.results217 Y Y ⟨_, Y, a4, (a0.trans (a2.trans a5)), ⟨_, (by rfl), a6⟩, S⟩
theorem it_Reject1 {M : Hp} {v9 : Value} {f9 : Int → Bool} (h9 : Gj Tryz.prog v9 M f9) {x0 x1 : Int} {bx9 : Nat} (hbx9 : M bx9 = some (.cells #[v9] 95)) :
  Pu Tryz.prog (.func (.func 338) #[] #[.pointer (some ⟨bx9, 0, none⟩)]) M [.int .i64 x0, .int .i64 x1] (fun r M' => r = .bool (f9 x0)) := by
 refine Qd Tryz.func338 Y Tryz.ntmps338 Y Tryz.call338 ?_
 intro a w M1 H hM1 S E
 replace h9 := h9.le hM1
 replace hbx9 := hM1.2 _ _ hbx9
 refine Qs (Qj E Y fun _ B => QI (Qb B Y Tryz.isAgg95 S.imm (Qf hbx9) fun _ C => Qn C Y ?_))
 clear E a B C; intro a E
 refine Qk (Qm E S Y Y Y (h9.2 x0) lerf ?_)
 clear E a S; rintro a _ w a0 a1 rfl S E
 refine Qj E Y ?_
 clear E a; intro a E
 refine Jj ?_
 exact Qa E Tryz.results338 Y ⟨_, Y, a0, a1, Y, S⟩
theorem it_Reject {M : Hp} {v0 : Value} {l0 : List Int} (h0 : Jh Tryz.prog v0 M (QB) l0) {v1 : Value} {f1 : Int → Bool} (h1 : Gj Tryz.prog v1 M f1) (hb : l0.length ≤ 1000000000000) :
  Pu Tryz.prog (.func (.func 327) #[] #[]) M [v0, v1] (fun r M' => Jh Tryz.prog r M' QB ((l0).filter (fun x => !(f1 x)))) := by
 refine Qd Tryz.func327 Y Tryz.ntmps327 Y Tryz.call327 ?_
 intro a w M1 H hM1 S E
 replace h0 := h0.le hM1
 replace h1 := h1.le hM1
 refine Qs ?_
 refine Qk (QA (cs := #[v1]) E S Y Y (cells_one h1.1) ?_)
 clear E a S; rintro a w a5 E S
 obtain ⟨a6, a0, a1, S⟩ := S.freezeB
 replace h0 := h0.le a0
 replace h1 := h1.le a0
 refine Qj E Y fun _ B => QI (Qn B Y fun _ C => Qv C Y Y ?_)
 clear E a B C; intro a E
 refine Qk (Qm E S Y Y Y (GZ h0 ⟨Y, fun zx0 zx1 => it_Reject1 (x0 := zx0) (x1 := zx1) (f9 := f1) h1 a1⟩ (by (omega))) lerf ?_)
 clear E a S; rintro a a7 w a2 a3 a4 S E
 refine Qj E Y ?_
 clear E a; intro a E
 refine Jj ?_
 exact Qa E Tryz.results327 Y ⟨_, Y, a2, (a0.trans a3), (Jy a4 (by (exact zS _ _ _))), S⟩
theorem vZ {M : Hp} {m8 : Value} {q8 : List Int} (hm8 : ye M m8 (Sl.encS q8)){v9 : Value} {f9 : Int → Int} (h9 : jd Tryz.prog v9 M f9) {x0 : Int} {bx8 bx9 : Nat} (hbx8 : M bx8 = some (.cells #[m8] 116)) (hbx9 : M bx9 = some (.cells #[v9] 90)) :
  Pu Tryz.prog (.func (.func 328) #[] #[.pointer (some ⟨bx8, 0, none⟩), .pointer (some ⟨bx9, 0, none⟩)]) M [.int .i64 x0] (fun r M' => r = .bool (decide (f9 x0 ∈ q8))) := by
 refine Qd Tryz.func328 Y Tryz.ntmps328 Y Tryz.call328 ?_
 intro a w M1 H hM1 S E
 replace hm8 := hm8.le hM1
 replace h9 := h9.le hM1
 replace hbx8 := hM1.2 _ _ hbx8
 replace hbx9 := hM1.2 _ _ hbx9
 refine Qs (Qj E Y ?_)
 clear E a; intro a E
 refine ZJ ?_
 have hbx8k0 := hbx8
 have hbx9k0 := hbx9
 replace S := S.mono_heap (w' := World.drew _) rfl
 refine Jb (C := fun x w => agree M1 w) (bf := (fun i => [])) [0, 1, 2, 5] [0, 1, 2, 3, 4, 5] Tryz.mixed (by kernel_rfl) (fun x hq => S.imm) ?_
 refine QU E Y (fun w hC => (QQ E Y Tryz.isAgg116 hC (Qf hbx8k0))) fun _ B => QU B Y (fun w hC => (QQ B Y Tryz.isAgg90 hC (Qf hbx9k0))) fun _ D => QU D Y (fun w hC => (QL D Y)) ?_
 clear E a B D; intro a E
 refine ZP Y Y Y (Qm E S Y Y Y (h9.2 x0) lerf ?_)
 clear E a S; rintro a _ w a3 a0 rfl S E
 replace hm8 := hm8.le a0
 refine ⟨fun x hq hb => (Qu a0 S.imm), ?_⟩
 refine ZP Y Y Y (Qm E S Y Y Y (zF hm8) lerf ?_)
 clear E a S; rintro a _ w a2 a1 rfl S E
 refine ⟨fun x hq hb => (Qu (a0.trans a1) S.imm), ?_⟩
 refine QU E Y (fun w hC => (Jx E Y)) ?_
 clear E a; intro a E
 refine JI (JH ?_)
 refine JZ (QM ?_)
 exact Qa E Tryz.results328 Y ⟨_, Y, a2, (a0.trans a1), Y, S⟩
theorem qP {M : Hp} {v0 : Value} {l0 : List Int} (h0 : Jh Tryz.prog v0 M (QB) l0){v1 : Value} {f1 : Int → Int} (h1 : jd Tryz.prog v1 M f1) {v2 : Value} {l2 : List Int} (h2 : Qy M v2 l2) (hb : l0.length ≤ 1000000000000) :
  Pu Tryz.prog (.func (.func 299) #[] #[]) M [v0, v1, v2] (fun r M' => Jh Tryz.prog r M' QB ((l0).filter (fun x => !decide (f1 x ∈ l2)))) := by
 refine Qd Tryz.func299 Y Tryz.ntmps299 Y Tryz.call299 ?_
 intro a w M1 H hM1 S E
 replace h0 := h0.le hM1
 replace h1 := h1.le hM1
 replace h2 := h2.le hM1
 refine Qs ?_
 refine Qk (QA (cs := #[v1]) E S Y Y (cells_one h1.1) ?_)
 clear E a S; rintro a w b2 E S
 obtain ⟨b3, a2, a0, S⟩ := S.freezeB
 replace h0 := h0.le a2
 replace h1 := h1.le a2
 replace h2 := h2.le a2
 refine Qj E Y fun _ B => QI (Qn B Y ?_)
 clear E a B; intro a E
 refine Qk (VF (p := []) E S Y Y Y (ZE h2) lerf ?_)
 clear E a S; rintro a _ w a6 _ a3 ⟨a7, rfl, rfl⟩ S E
 replace S : St w a6 (Zg a7 (Qw l2) :: _) := S
 replace h0 := h0.le a3
 replace h1 := h1.le a3
 replace a0 := a3.2 _ _ a0
 refine Qk (Ja (cs := #[.map none]) E S Y Tryz.zeroValue116 Y ?_)
 clear E a S; rintro a w b4 E S
 refine Jm (QS E S Y Y (Tryz.sizeOf116 _) Y ?_)
 clear E a S; rintro a w E S
 refine QI (Qn E Y ?_)
 clear E a; intro a E
 replace S := S.front1
 have S0 := S; clear S
 obtain ⟨b5, a4, a5, S⟩ := S0.freezeM
 clear S0
 replace h0 := h0.le a4
 replace h1 := h1.le a4
 replace a0 := a4.2 _ _ a0
 have S0 := S; clear S
 obtain ⟨b6, a1, a8, S⟩ := S0.freezeB
 clear S0
 replace h0 := h0.le a1
 replace h1 := h1.le a1
 replace a0 := a1.2 _ _ a0
 replace a5 := a5.le a1
 refine Qv E Y Y ?_
 clear E a; intro a E
 refine Qk (Qm E S Y Y Y (it_Reject h0 ⟨Y, fun zx0 => vZ (x0 := zx0) (f9 := f1) a5 h1 a8 a0⟩ (by (omega))) lerf ?_)
 clear E a S; rintro a b7 w a9 b0 b1 S E
 refine Qj E Y ?_
 clear E a; intro a E
 refine Jj ?_
 exact Qa E Tryz.results299 Y ⟨_, Y, a9, (a2.trans (a3.trans (a4.trans (a1.trans b0)))), (Jy b1 (by (simp only [Yd]))), S⟩
theorem it_Without1 {M : Hp} {x0 : Int} :
  Pu Tryz.prog (.func (.func 326) #[] #[]) M [.int .i64 x0] (fun r M' => r = .int .i64 x0) := by
 refine Qd Tryz.func326 Y Tryz.ntmps326 Y Tryz.call326 ?_
 intro a w M1 H hM1 S E
 refine Qs (Qj E Y fun _ B => QI (QD 2 B Y ?_))
 clear E a B; intro a E
 refine Jj ?_
 exact Qa E Tryz.results326 Y ⟨_, Y, M1, lerf, Y, S⟩
theorem it_Without {M : Hp} {v0 : Value} {l0 : List Int} (h0 : Jh Tryz.prog v0 M (QB) l0) {v1 : Value} {l1 : List Int} (h1 : Qy M v1 l1) (hb : l0.length ≤ 1000000000000) :
  Pu Tryz.prog (.func (.func 298) #[] #[]) M [v0, v1] (fun r M' => Jh Tryz.prog r M' QB ((l0).filter (fun x => !decide (x ∈ l1)))) := by
 refine Qd Tryz.func298 Y Tryz.ntmps298 Y Tryz.call298 ?_
 intro a w M1 H hM1 S E
 replace h0 := h0.le hM1
 replace h1 := h1.le hM1
 refine Qs (Qj E Y fun _ B => QI (QD 2 B Y ?_))
 clear E a B; intro a E
 refine Qk (Qm E S Y Y Y (qP h0 ⟨Y, fun zx0 => it_Without1 (x0 := zx0) ⟩ h1 (by (omega))) lerf ?_)
 clear E a S; rintro a a3 w a0 a1 a2 S E
 refine Qj E Y ?_
 clear E a; intro a E
 refine Jj ?_
 exact Qa E Tryz.results298 Y ⟨_, Y, a0, a1, (Jy a2 (by (rfl))), S⟩
theorem ju {M : Hp} {v0 v1 : Value} {l0 l1 : List Int} (h0 : Qy M v0 l0) (h1 : Qy M v1 l1)(hb : l0.length ≤ 1000000000000) :
  Pu Tryz.prog (.func (.func 218) #[] #[]) M [v0, v1] (fun r M' => Qy M' r ((l0).filter (fun x => !decide (x ∈ l1)))) := by
 refine Qd Tryz.func218 Y Tryz.ntmps218 Y Tryz.call218 ?_
 intro a w M1 H hM1 S E
 replace h0 := h0.le hM1
 replace h1 := h1.le hM1
 have b0 := h0.bound
 have b1 := h1.bound
 have hfl := List.length_filter_le (fun x => !decide (x ∈ l1)) l0
 refine Qs (Qj E Y fun _ B => QI (Qn B Y ?_))
 clear E a B; intro a E
 refine Qk (Qm E S Y Y Y (QG h0) lerf ?_)
 clear E a S; rintro a a7 w a8 a0 a1 S E
 replace h1 := h1.le a0
 refine Qn E Y ?_
 clear E a; intro a E
 refine Qk (Qm E S Y Y Y (it_Without a1 h1 (by (omega))) lerf ?_)
 clear E a S; rintro a a9 w b2 a2 a3 S E
 refine Qk (Qm E S Y Y Y (QJ a3 (by omega)) lerf ?_)
 clear E a S; rintro a b3 w a4 a5 a6 S E
 refine Qj E Y ?_
 clear E a; intro a E
 refine Jj ?_
 exact Qa E Tryz.results218 Y ⟨_, Y, a4, (a0.trans (a2.trans a5)), a6, S⟩
theorem qU {M : Hp} {v0 : Value} {l0 : List Int} (h0 : Qy M v0 l0) {v2 : Value} {l2 : List Int} (h2 : Qy M v2 l2) {kk1 kn1 : Int} (gk1 : -9223372036854775808 ≤ kn1 ∧ kn1 ≤ 9223372036854775807) (hb : l0.length ≤ 1000000000000) :
  Pu Tryz.prog (.func (.func 219) #[] #[]) M [v0, .agg #[.int .i64 kk1, .int .i64 kn1], v2] (fun r M' => Qy M' r ((l0).filter (fun x => !decide (JL kk1 kn1 x 0 ∈ l2)))) := by
 refine Qd Tryz.func219 Y Tryz.ntmps219 Y Tryz.call219 ?_
 intro a w M1 H hM1 S E
 replace h0 := h0.le hM1
 replace h2 := h2.le hM1
 have b0 := h0.bound
 have b2 := h2.bound
 have hfl := List.length_filter_le (fun x => !decide (JL kk1 kn1 x 0 ∈ l2)) l0
 refine Qs ?_
 refine Qk (QA (cs := #[.int .i64 kk1, .int .i64 kn1]) E S Y Y Y ?_)
 clear E a S; rintro a w b1 E S
 obtain ⟨a4, a1, a5, S⟩ := S.freezeB
 replace h0 := h0.le a1
 replace h2 := h2.le a1
 refine Qj E Y ?_
 clear E a; intro a E
 refine ZJ ?_
 have hb_1k2 := a5
 replace S := S.mono_heap (w' := World.drew _) rfl
 refine Jb (C := fun x w => agree a4 w) (bf := (fun i => [])) [0, 2, 3, 4, 7] [0, 2, 3, 4, 1, 5, 6, 7] Tryz.mixed (by kernel_rfl) (fun x hq => S.imm) ?_
 refine QU E Y (fun w hC => (QL E Y)) fun _ B => QU B Y (fun w hC => (ZW B Y (Tryz.isAgg30 _) (Tryz.sizeOf30 _) hC hb_1k2)) fun _ D => QU D Y (fun w hC => (ZV D Y Y)) fun _ F => QU F Y (fun w hC => (QL F Y)) ?_
 clear E a B D F; intro a E
 refine ZP Y Y Y (Qm E S Y Y Y (QG h0) lerf ?_)
 clear E a S; rintro a b3 w b4 a0 a6 S E
 replace h2 := h2.le a0
 refine ⟨fun x hq hb => (Qu a0 S.imm), ?_⟩
 refine ZP Y Y Y (Qm E S Y Y Y (qP a6 ⟨Y, fun zx1 => Gk (x1 := zx1) (by omega)⟩ h2 (by (omega))) lerf ?_)
 clear E a S; rintro a b5 w b6 a2 a7 S E
 refine ⟨fun x hq hb => (Qu (a0.trans a2) S.imm), ?_⟩
 refine ZP Y Y Y (Qm E S Y Y Y (QJ a7 (by omega)) lerf ?_)
 clear E a S; rintro a b7 w a8 a3 a9 S E
 refine ⟨fun x hq hb => (Qu (a0.trans (a2.trans a3)) S.imm), ?_⟩
 refine QU E Y (fun w hC => (Jx E Y)) ?_
 clear E a; intro a E
 refine JI (JH ?_)
 refine JZ (QM ?_)
 exact Qa E Tryz.results219 Y ⟨_, Y, a8, (a1.trans (a0.trans (a2.trans a3))), (QX.eqL a9 (by (rfl))), S⟩
theorem zL {M : Hp} {v0 : Value} {l0 : List (List Int)} (h0 : Zf M v0 l0) (hb : l0.length ≤ 1000000000) :
  Pu Tryz.prog (.func (.func 301) #[] #[]) M [v0] (fun r M' => QX 1 (RSq Tryz.prog QB) M' r l0) := by
 refine Qd Tryz.func301 Y Tryz.ntmps301 Y Tryz.call301 ?_
 intro a w M1 H hM1 S E
 replace h0 := h0.le hM1
 have b0 := h0.bound
 refine Qs (Qj E Y fun _ B => QI (Qj B Y fun _ C => Zp (Qn C Y fun _ D => Qt D Y Vn h0.len fun _ F => Qn F Y ?_)))
 clear E a B C D F; intro a E
 refine ZH ?_
 replace S : St w M1 (Zk 62 1 (.slice none 0 0) ([] : List (List Int)).length [] :: _) := S.ownNil
 have a1 : Zx (RSq Tryz.prog QB) 1 M1 ([] : List (List Int)) [] := Zx.nil
 have hre : ([] : List (List Int)) = l0.take 0 := by (rfl)
 replace S := S.reR hre
 replace a1 := a1.eq hre
 clear hre
 refine QN (γ := Nat) (fun (k : Nat) a w => ∃ (a0 : Hp) (u3 : Value) (xs3 : List Value), Hp.le M1 a0 ∧ St w a0 (Zk 62 1 u3 (l0.take k).length xs3 :: H) ∧ Env a 19 [] [(3, u3), (6, v0), (7, .int .i64 (((l0).length : Nat) : Int)), (8, .int .i64 ((k : Nat) : Int))] ∧ (k ≤ (l0).length) ∧ Zx (RSq Tryz.prog QB) 1 a0 (l0.take k) xs3) (fun k => ((l0).length) - k) 0 ⟨M1, _, _, lerf, S, E.keep ⟨Y, Y, Y, Y, trivial⟩, by (omega), a1⟩ ?_
 try clear E
 try clear S
 try clear a
 try clear w
 rintro k a w ⟨a0, u3, xs3, a2, S, E, c0, hr3⟩
 replace h0 := h0.le a2
 refine Qs (Jc E Y Y ?_)
 clear E a; intro a E
 refine ZJ ?_
 refine Ql E Y (fun a9 => ?_) (fun a9 => ?_)
 ·refine YZ ?_
  obtain ⟨a3, b1⟩ : ∃ x, (l0)[k]? = some x := ⟨_, List.getElem?_eq_getElem (by omega)⟩
  obtain ⟨c1, c2, b2, b3, a5⟩ := h0.at b1
  have c3 := a5.bound
  refine QZ E Y Y Vn b2 Y fun _ B => Qb B Y Tryz.isAgg22 S.imm b3 fun _ C => Qj C Y fun _ D => zw (QD 2 D Y ?_)
  clear E a B C D; intro a E
  refine Qk (Qm E S Y Y Y (QG a5) lerf ?_)
  clear E a S; rintro a b4 w c4 a6 a7 S E
  replace hr3 := hr3.le JN a6
  refine Qk (Yg (R := (RSq Tryz.prog QB)) (vs := [b4]) (xs := [a3]) JN E S Y ja Y Y Y (by intro u hu; simp only [List.mem_cons, List.not_mem_nil, or_false] at hu; rcases hu with rfl <;> first | exact a7.1) Y (Ve (R := (RSq Tryz.prog QB)) ⟨_, Y, a7⟩ UE) ?_)
  clear E a S; rintro a c5 w b5 a8 b6 S E
  replace hr3 := hr3.le JN a8
  refine Qk (VR (R := (RSq Tryz.prog QB)) (zs := l0.take k) (ys := [a3]) E S hr3 Y Y Y ja b6 one_RSq (by (simp; omega)) (by (simp; omega)) ?_)
  clear E a S; rintro a w c6 c7 E a4 S
  refine Qj E Y fun _ B => Wj (Qp (m := ((k + 1 : Nat) : Int)) B Y Y fun _ C => Qn C Y ?_)
  clear E a B C; intro a E
  refine Qz ?_
  have hre : (l0.take k) ++ [a3] = l0.take (k + 1) := by ((try clear S); (try clear E); (simp [List.take_add_one, *]; done))
  replace S := S.reR hre
  replace a4 := a4.eq hre
  clear hre
  exact ⟨k + 1, ⟨b5, _, _, (a2.trans (a6.trans a8)), S, E.keep ⟨Y, Y, Y, Y, trivial⟩, by (omega), a4⟩, by omega⟩
 ·refine VJ (QD 2 E Y ?_)
  clear E a; intro a E
  refine Jj ?_
  have S0 := S; clear S
  obtain ⟨b7, b8, b9, S⟩ := S0.freezeR hr3 JN (by ((simp; omega)))
  clear S0
  exact Qa E Tryz.results301 Y ⟨_, Y, b7, (a2.trans b8), (by rw [show l0 = (l0.take k) from by (rw [List.take_of_length_le (by omega)])]; exact b9), S⟩
theorem it_Union1 {M : Hp} {v0 : Value} {l0 : List (List Int)} (h0 : QX 1 (RSq Tryz.prog QB) M v0 l0) {bx1 : Nat} (hbx1 : M bx1 = some (.cells #[v0] 139)) :
  Jh Tryz.prog (.func (.func 329) #[] #[.pointer (some ⟨bx1, 0, none⟩)]) M (QB) (Qw (l0).flatten) := by
 refine Jw Tryz.func329 Y Tryz.ntmps329 Y Tryz.call329 ?_
 intro y J X a w M1 c H hJM hM1 hY hJ S E
 replace hbx1 := hM1.2 _ _ hbx1
 replace h0 := h0.le JN hM1
 have b0 := h0.bound
 refine Qs ?_
 refine Qk (QA (cs := #[y]) E S Y Y (cells_one hY.1) ?_)
 clear E a S; rintro a w a8 E S
 obtain ⟨a9, a4, a2, S⟩ := S.freezeB
 replace hbx1 := a4.2 _ _ hbx1
 replace h0 := h0.le JN a4
 replace hJ := hJM _ _ _ _ a4 hJ
 refine QI ?_
 refine Qk (Uw E S Y ?_)
 clear E a S; rintro a w a0 E S
 replace S : St w a9 (Zg a0 ([] : List Int) :: _) := S
 refine Qk (Ja (cs := #[.map none]) E S Y Tryz.zeroValue116 Y ?_)
 clear E a S; rintro a w a1 E S
 refine Jm (QS E S Y Y (Tryz.sizeOf116 _) Y ?_)
 clear E a S; rintro a w E S
 refine QI (Qb E Y Tryz.isAgg139 S.imm (Qf hbx1) fun _ B => Qt B Y ja h0.len fun _ C => Qn C Y ?_)
 clear E a B C; intro a E
 refine ZH ?_
 replace S := S.front1
 replace S := S.reM (L' := (Sl.encS (Qw (l0.take 0).flatten))) (congrArg Sl.encS (show ([] : List Int) = Qw (l0.take 0).flatten by first | (simp [Qw]; done) | (rw [ZL (by assumption)])))
 refine QN (γ := Nat) (fun (k : Nat) a w => ∃ (a6 : Hp) (cL0 : Qr) (Ds0 : List Nat), Hp.le a9 a6 ∧ St w a6 (Zg a0 (Qw (l0.take k).flatten) :: Jk a1 (.cells #[.map (some a0)] 116) :: zt Ds0 :: cL0 :: H) ∧ Env a 35 (Ds0.map mk) [(1, .pointer (some ⟨bx1, 0, none⟩)), (2, .pointer (some ⟨a8, 0, none⟩)), (3, .pointer (some ⟨a1, 0, none⟩)), (10, .int .i64 (((l0).length : Nat) : Int)), (11, .int .i64 ((k : Nat) : Int))] ∧ (k ≤ (l0).length) ∧ J (Qw (l0.take k).flatten) a6 cL0) (fun k => ((l0).length) - k) 0 ⟨a9, _, _, lerf, S, E.keep ⟨Y, Y, Y, Y, Y, trivial⟩, by (omega), Ju hJ (by (simp [Qw]))⟩ ?_
 try clear E
 try clear S
 try clear a
 try clear w
 rintro k a w ⟨a6, cL0, Ds0, a3, S, E, d1, hJ⟩
 replace hbx1 := a3.2 _ _ hbx1
 replace h0 := h0.le JN a3
 replace a2 := a3.2 _ _ a2
 refine Qs (Jc E Y Y ?_)
 clear E a; intro a E
 refine ZJ ?_
 refine Ql E Y (fun b7 => ?_) (fun b7 => ?_)
 ·refine YZ (QD 2 E Y fun _ B => QI (Qb B Y Tryz.isAgg139 S.imm (Qf hbx1) fun _ C => Qn C Y ?_))
  clear E a B C; intro a E
  obtain ⟨b2, b8⟩ : ∃ x, (l0)[k]? = some x := ⟨_, List.getElem?_eq_getElem (by omega)⟩
  obtain ⟨d2, b3, b9, c0, c2⟩ := RdQ.at h0 b8
  refine QZ E Y Y ja b9 Y fun _ B => Qb B Y Tryz.isAgg62 S.imm c0 ?_
  clear E a B; intro a E
  refine ZH ?_
  replace S := S.front1.front3.front2.front2
  replace E := E.keep (l' := [(1, .pointer (some ⟨bx1, 0, none⟩)), (2, .pointer (some ⟨a8, 0, none⟩)), (3, .pointer (some ⟨a1, 0, none⟩)), (10, .int .i64 (((l0).length : Nat) : Int)), (11, .int .i64 ((k : Nat) : Int)), (17, b3)]) ⟨Y, Y, Y, Y, Y, Y, trivial⟩
  replace S := S.front2.front2
  replace S := S.reM (L' := (Sl.encS (Qw ((l0.take k).flatten ++ (([] : List Int)))))) (congrArg Sl.encS (show Qw (l0.take k).flatten = Qw ((l0.take k).flatten ++ (([] : List Int))) by first | (rw [List.append_nil]; done) | (rw [← List.append_assoc]; first | exact (YJ _ _).symm | (refine WZ ?_; assumption))))
  replace S := S.front2
  have S0 := S; clear S; have S := St.pack [Jk a1 (.cells #[.map (some a0)] 116), Zg a0 (Qw ((l0.take k).flatten ++ (([] : List Int)))), cL0] S0; clear S0
  refine JK (RV := QB) (l := b2) (fun pre M c => ∃ (c1 : Qr), c = Yf [Jk a1 (.cells #[.map (some a0)] 116), Zg a0 (Qw ((l0.take k).flatten ++ (pre))), c1] ∧ (J (Qw ((l0.take k).flatten ++ (pre))) M c1)) (fun cd pre M c => cd = .ret ∧ ∃ z, z <+: (Qw (l0).flatten) ∧ X z M c) E S Y c2 lerf (fun _ _ _ h => by rw [h]; rfl) (by decide) (by rintro _ M M' c hM ⟨c1, rfl, f0⟩; exact ⟨_, rfl, hJM _ _ _ _ hM f0⟩) ⟨_, rfl, Ju hJ (by (rw [List.append_nil]))⟩ ?_ ?_ ?_
  clear E S
  ·rintro lb_11 rec_12 pre x _ a w b4 _ G b5 c3 rfl ⟨c1, rfl, f0⟩ E S
   replace E : Env a 35 [] [(18, .int .i64 x), (1, .pointer (some ⟨bx1, 0, none⟩)), (2, .pointer (some ⟨a8, 0, none⟩)), (3, .pointer (some ⟨a1, 0, none⟩)), (10, .int .i64 (((l0).length : Nat) : Int)), (11, .int .i64 ((k : Nat) : Int)), (17, b3)] := E
   replace S := S.swap.unpack3
   have hq1 := Js c3
   replace a2 := b5.2 _ _ a2
   refine Qh (Qj E Y ?_)
   clear E a; intro a E
   refine Qz ?_
   replace S := S.front3
   refine rb S ?_
   clear S; intro w S
   refine QW (Qs (QH E Y (Tryz.isAgg116 _) (Qo (S.mem (.tail _ (.head _)))) fun _ B => Qn B Y ?_))
   clear E a B; intro a E
   replace S := S.front2
   refine Qk (Ya E S Y Yp Y Y ?_)
   clear E a S; rintro a w E S
   replace S : St w b4 (Zg a0 (Qw ((l0.take k).flatten ++ (pre))) :: _) := S
   refine Qn E Y fun _ B => Qg B Y Y fun _ C => Qg C Y Y ?_
   clear E a B C; intro a E
   refine Qk (Ja (cs := #[]) E S Y Tryz.zeroValue117 Y ?_)
   clear E a S; rintro a w c4 E S
   refine Jm (Zv (us := []) E S Y Y (Tryz.sizeOf117 _) Y (by intro u hu; cases hu) ?_)
   clear E a S; rintro a w E S
   replace S : St w b4 (Jk c4 (.cells #[] 117) :: _) := S
   have S0 := S; clear S
   obtain ⟨c5, a5, d3, S⟩ := S0.freezeB
   clear S0
   replace a2 := a5.2 _ _ a2
   replace f0 := hJM _ _ _ _ a5 f0
   refine Qj E Y fun _ B => QI (Qn B Y fun _ C => Ji C Y ?_)
   clear E a B C; intro a E
   refine Qz ?_
   refine Jf E Y (fun c6 => ?_) (fun c6 => ?_)
   ·refine Je ?_
    refine Qs (Qb E Y Tryz.isAgg95 S.imm (Qf a2) fun _ B => Qn B Y ?_)
    clear E a B; intro a E
    replace S := S.front3
    refine Qk (JC (x := x) E S Y Y Y hY (a4.trans (a3.trans (b5.trans a5))) (by (rw [Gx (by assumption)]; exact keyL_pre (UH (by assumption) (by assumption)))) Y f0 ?_)
    clear E a S; rintro a w a7 b1 go_21 b6 f0 S E
    cases go_21
    ·replace f0 : X (Qw ((l0.take k).flatten ++ (pre)) ++ [x]) a7 b1 := f0
     refine Ji E Y ?_
     clear E a; intro a E
     refine Qz ?_
     refine QY E Y Y ?_
     refine QM (UA (ZC ?_))
     replace S := S.front1.drop.front2.drop.front1
     exact ⟨a7, _, (a5.trans b6), ⟨Y, _, (by ((rw [Gx (by assumption)]; exact keyL_pre (UH (by assumption) (by assumption))))), f0⟩, S⟩
    ·replace f0 : J (Qw ((l0.take k).flatten ++ (pre)) ++ [x]) a7 b1 := f0
     refine Ji E Y ?_
     clear E a; intro a E
     refine Qz ?_
     refine QF E Y Y ?_
     refine Qx (JZ (Qh (QH E Y (Tryz.isAgg116 _) (Qo (S.mem (.tail _ (.tail _ (.tail _ (.head _)))))) fun _ B => Qn B Y fun _ C => UI (u := .agg #[]) (vs := []) C Y (fun w => WG  w) ?_)))
     clear E a B C; intro a E
     replace S := S.front1
     refine Jm (VQ E S Yp Y Y Y ?_)
     clear E a S; rintro a w E S
     refine Jz (ZK ?_)
     replace S := S.front1.front1.front3.front2.front2
     replace S := S.reM (L' := (Sl.encS (Qw ((l0.take k).flatten ++ ((pre ++ [x])))))) (congrArg Sl.encS (show Ym (Qw ((l0.take k).flatten ++ (pre))) x = Qw ((l0.take k).flatten ++ ((pre ++ [x]))) by first | (rw [List.append_nil]; done) | (rw [← List.append_assoc]; first | exact (YJ _ _).symm | (refine WZ ?_; assumption))))
     replace S := S.front2
     have S0 := S; clear S; have S := (St.pack [Jk a1 (.cells #[.map (some a0)] 116), Zg a0 (Qw ((l0.take k).flatten ++ ((pre ++ [x])))), b1] S0).swap; clear S0
     exact ⟨a7, _, (a5.trans b6), ⟨_, Y, Ju f0 (by (rw [← List.append_assoc]; first | (refine Gx ?_; assumption) | (refine WZ ?_; assumption)))⟩, S⟩
   ·refine Qx ?_
    refine ZK ?_
    replace S := S.front3.front1.front3.front2.front2
    replace S := S.reM (L' := (Sl.encS (Qw ((l0.take k).flatten ++ ((pre ++ [x])))))) (congrArg Sl.encS (show Qw ((l0.take k).flatten ++ (pre)) = Qw ((l0.take k).flatten ++ ((pre ++ [x]))) by first | (rw [List.append_nil]; done) | (rw [← List.append_assoc]; first | exact (YJ _ _).symm | (refine WZ ?_; assumption))))
    replace S := S.front2
    have S0 := S; clear S; have S := (St.pack [Jk a1 (.cells #[.map (some a0)] 116), Zg a0 (Qw ((l0.take k).flatten ++ ((pre ++ [x])))), c1] S0).swap; clear S0
    exact ⟨c5, _, a5, ⟨_, Y, Ju f0 (by (rw [← List.append_assoc]; first | (refine Gx ?_; assumption) | (refine WZ ?_; assumption)))⟩, S⟩
  ·rintro a w c7 _ D_23 c8 ⟨c1, rfl, f0⟩ S E
   replace S := S.unpack3
   refine ZK (WN (Qp (m := ((k + 1 : Nat) : Int)) E Y Y fun _ B => Qn B Y ?_))
   clear E a B; intro a E
   refine Qz ?_
   replace S := S.front2.front3.front2.front3
   replace S := S.reM (L' := (Sl.encS (Qw (l0.take (k + 1)).flatten))) (congrArg Sl.encS (show Qw ((l0.take k).flatten ++ (b2)) = Qw (l0.take (k + 1)).flatten by first | (simp [Qw]; done) | (rw [ZL (by assumption)])))
   exact ⟨k + 1, ⟨c7, _, _, (a3.trans c8), S, E.keep ⟨Y, Y, Y, Y, Y, trivial⟩, by (omega), Ju f0 (by (rw [ZL (by assumption)]))⟩, by omega⟩
  ·rintro a w c9 c_ D_25 d4 _ d0 d5 ⟨rfl, z_, hz_, f0⟩ S E
   refine QM (ZC (ZC (J_u (ZC ?_))))
   replace S := S.front1
   exact QR E S Tryz.results329 (fun w S => ⟨_, Y, c9, _, (a4.trans (a3.trans d0)), .inr ⟨z_, (by assumption), f0⟩, S⟩)
 ·refine JO (Ul (Ul (zx (Yh ?_))))
  replace S := S.drop.drop.front1.front1
  have hpre : Qw (l0.take k).flatten = Qw (l0).flatten := by (rw [List.take_of_length_le (by omega)])
  rw [hpre] at hJ
  exact QR E S Tryz.results329 (fun w S => ⟨_, Y, a6, _, (a4.trans a3), .inl hJ, S⟩)
theorem it_Union {M : Hp} {v0 : Value} {l0 : List (List Int)} (h0 : QX 1 (RSq Tryz.prog QB) M v0 l0) :
  Pu Tryz.prog (.func (.func 300) #[] #[]) M [v0] (fun r M' => Jh Tryz.prog r M' QB (Qw (l0).flatten)) := by
 refine Qd Tryz.func300 Y Tryz.ntmps300 Y Tryz.call300 ?_
 intro a w M1 H hM1 S E
 replace h0 := h0.le JN hM1
 have b0 := h0.bound
 refine Qs ?_
 refine Qk (QA (cs := #[v0]) E S Y Y (cells_one (QX.one' h0)) ?_)
 clear E a S; rintro a w a3 E S
 obtain ⟨a1, a0, a2, S⟩ := S.freezeB
 replace h0 := h0.le JN a0
 refine Qj E Y fun _ B => QI (Qv B Y Y fun _ C => Qj C Y ?_)
 clear E a B C; intro a E
 refine Jj ?_
 exact Qa E Tryz.results300 Y ⟨_, Y, a1, a0, (Jy (it_Union1 h0 a2) (by (rfl))), S⟩
theorem impl_UnionSeq {M : Hp} {v0 : Value} {l0 : List (List Int)} (h0 : Zf M v0 l0) (hb : total l0 ≤ 1000000000) (hb2 : l0.length ≤ 1000000000) :
  Pu Tryz.prog (.func (.func 220) #[] #[]) M [v0] (fun r M' => Qy M' r (Qw (l0).flatten)) := by
 refine Qd Tryz.func220 Y Tryz.ntmps220 Y Tryz.call220 ?_
 intro a w M1 H hM1 S E
 replace h0 := h0.le hM1
 have b0 := h0.bound
 have hul := jY l0 l0.length
 rw [List.take_of_length_le (Nat.le_refl _)] at hul
 refine Qs (Qj E Y fun _ B => QI (Qn B Y ?_))
 clear E a B; intro a E
 refine Qk (Qm E S Y Y Y (zL h0 (by omega)) lerf ?_)
 clear E a S; rintro a a7 w a8 a0 a1 S E
 refine Qk (Qm E S Y Y Y (it_Union a1) lerf ?_)
 clear E a S; rintro a a9 w b1 a2 a3 S E
 refine Qk (Qm E S Y Y Y (QJ a3 (by omega)) lerf ?_)
 clear E a S; rintro a b2 w a4 a5 a6 S E
 refine Qj E Y ?_
 clear E a; intro a E
 refine Jj ?_
 exact Qa E Tryz.results220 Y ⟨_, Y, a4, (a0.trans (a2.trans a5)), a6, S⟩
theorem it_Chunk1 {M : Hp} {v0 : Value} {l0 : List Int} (h0 : Jh Tryz.prog v0 M (QB) l0) {n1 : Nat} (hn : 0 < n1) (hb1 : n1 ≤ 1000000) {bx1 bx2 : Nat} (hbx1 : M bx1 = some (.cells #[v0] 62)) (hbx2 : M bx2 = some (.cells #[.int .i64 (n1 : Int)] 3)) :
  Jh Tryz.prog (.func (.func 331) #[] #[.pointer (some ⟨bx1, 0, none⟩), .pointer (some ⟨bx2, 0, none⟩)]) M (Vf 1 QB) (chL n1 l0) := by
 refine Jw Tryz.func331 Y Tryz.ntmps331 Y Tryz.call331 ?_
 intro y J X a w M1 c H hJM hM1 hY hJ S E
 replace h0 := h0.le hM1
 replace hbx1 := hM1.2 _ _ hbx1
 replace hbx2 := hM1.2 _ _ hbx2
 have hcl0 := ch_lt hn l0
 refine Qs ?_
 refine Qk (QA (cs := #[y]) E S Y Y (cells_one hY.1) ?_)
 clear E a S; rintro a w b5 E S
 obtain ⟨d3, a1, a0, S⟩ := S.freezeB
 replace h0 := h0.le a1
 replace hbx1 := a1.2 _ _ hbx1
 replace hbx2 := a1.2 _ _ hbx2
 replace hJ := hJM _ _ _ _ a1 hJ
 refine QI ?_
 refine Qk (Ja (cs := #[.slice none 0 0]) E S Y Tryz.zeroValue22 Y ?_)
 clear E a S; rintro a w a2 E S
 refine Zp (Qb E Y Tryz.isAgg62 S.imm (Qf hbx1) ?_)
 clear E a; intro a E
 refine ZH ?_
 replace S := (S.ownNil (e := 3) (sz := 1)).made0
 replace S := S.front3.front1.front2
 replace E := E.keep (l' := [(2, .pointer (some ⟨bx2, 0, none⟩)), (3, .pointer (some ⟨b5, 0, none⟩)), (4, .pointer (some ⟨a2, 0, none⟩)), (6, v0)]) ⟨Y, Y, Y, Y, trivial⟩
 replace S := S.front2.front2
 replace S := S.re1 (l' := (ZT n1 (([] : List Int))).2) (by (rfl))
 replace S := S.front2
 have S0 := S; clear S; have S := St.pack [Jk a2 (.cells #[(.slice none 0 0)] 22), Jg 3 (.slice none 0 0) ((ZT n1 (([] : List Int))).2), c] S0; clear S0
 refine JK (RV := QB) (l := l0) (fun pre M c => ∃ (u4 : Value) (c0 : Qr), c = Yf [Jk a2 (.cells #[u4] 22), Jg 3 u4 ((ZT n1 (pre)).2), c0] ∧ (J ((ZT n1 (pre)).1) M c0) ∧ ((ZT n1 (pre)).2 = [] → u4 = .slice none 0 0)) (fun cd pre M c => cd = .ret ∧ ∃ z, z <+: (chL n1 l0) ∧ X z M c) E S Y h0 lerf (fun _ _ _ h => by rw [h]; rfl) (by decide) (by rintro _ M M' c hM ⟨u4, c0, rfl, f0, f1⟩; exact ⟨_, _, rfl, hJM _ _ _ _ hM f0, f1⟩) ⟨_, _, rfl, Ju hJ (by rfl), (by (intro _; rfl))⟩ ?_ ?_ ?_
 clear E S
 ·rintro lb_6 rec_7 pre xa _ a w b6 _ G a6 c2 rfl ⟨u4, c0, rfl, f0, f1⟩ E S
  replace E : Env a 29 [] [(7, .int .i64 xa), (2, .pointer (some ⟨bx2, 0, none⟩)), (3, .pointer (some ⟨b5, 0, none⟩)), (4, .pointer (some ⟨a2, 0, none⟩)), (6, v0)] := E
  replace S := S.swap.unpack3
  have hq0 := Js c2
  replace hbx2 := a6.2 _ _ hbx2
  replace a0 := a6.2 _ _ a0
  have hcl := ch_lt hn pre
  refine Qh (Qj E Y ?_)
  clear E a; intro a E
  refine Qz ?_
  replace S := S.front3
  refine rb S ?_
  clear S; intro w S
  refine QW (UK (QH E Y (Tryz.isAgg22 _) (Qo (S.mem (.tail _ (.head _)))) ?_))
  clear E a; intro a E
  replace S := S.front2
  refine S_w E (R_eqlN E Y Y QE.und (nilV S (by assumption))) ?_
  clear E a; intro a E
  refine Qz ?_
  refine Ql E Y (fun c3 => ?_) (fun c3 => ?_)
  ·refine Qh (Qb E Y Tryz.isAgg3 S.imm (Qf hbx2) ?_)
   clear E a; intro a E
   refine Qk (JD (k := n1) E S Y Y Y QE Y (by omega) (by omega) (by omega) ?_)
   clear E a S; rintro a w d4 E S
   replace S := S.made0
   replace S := S.re1 (l' := (ZT n1 pre).2) (by (symm; assumption))
   have ho_12 := S.oneI
   replace S := S.front3
   refine Jm (QS E S Y Y (Tryz.sizeOf22 _) ho_12 ?_)
   clear E a S; rintro a w E S
   refine QI (QH E Y (Tryz.isAgg22 _) (Qo (S.mem (.head _))) fun _ B => Qn B Y ?_)
   clear E a B; intro a E
   refine Qk (QV (ys := [xa]) E S Y QE Y Y Y ?_)
   clear E a S; rintro a w d5 E S
   replace S := S.front2.front1
   refine Qk (JF (xs := (ZT n1 pre).2) (ys := [xa]) E S Y Y Y QE (by ((simp only [List.length_append, List.length_cons, List.length_nil]; omega))) ?_)
   clear E a S; rintro a w b7 E S
   have ho_15 := S.oneI
   replace S := S.front1
   refine Jm (QS E S Y Y (Tryz.sizeOf22 _) ho_15 ?_)
   clear E a S; rintro a w E S
   refine QI (QH E Y (Tryz.isAgg22 _) (Qo (S.mem (.head _))) ?_)
   clear E a; intro a E
   replace S := S.front1
   refine Qt E Y QE S.lenC fun _ B => Qb B Y Tryz.isAgg3 S.imm (Qf hbx2) fun _ C => QK C Y Y ?_
   clear E a B C; intro a E
   refine Qz ?_
   refine Ql E Y (fun c4 => ?_) (fun c4 => ?_)
   ·refine UK (Qb E Y Tryz.isAgg153 S.imm (Qf a0) fun _ B => QH B Y (Tryz.isAgg22 _) (Qo (S.mem (.tail _ (.head _)))) ?_)
    clear E a B; intro a E
    have S0 := S; clear S
    obtain ⟨d6, a3, c5, S⟩ := S0.freezeI (by ((simp only [List.length_append, List.length_cons, List.length_nil]; omega)))
    clear S0
    replace hbx2 := a3.2 _ _ hbx2
    replace a0 := a3.2 _ _ a0
    replace f0 := hJM _ _ _ _ a3 f0
    replace S := S.front3
    refine Qk (JC (x := ((ZT n1 pre).2) ++ [xa]) E S Y Y Y hY (a1.trans (a6.trans a3)) (by exact zk (by assumption) (by omega)) ⟨_, Y, c5⟩ f0 ?_)
    clear E a S; rintro a w a7 b2 go_21 a8 f0 S E
    replace hbx2 := a8.2 _ _ hbx2
    replace a0 := a8.2 _ _ a0
    cases go_21
    ·replace f0 : X ((ZT n1 (pre)).1 ++ [((ZT n1 pre).2) ++ [xa]]) a7 b2 := f0
     refine Ji E Y ?_
     clear E a; intro a E
     refine Qz ?_
     refine QY E Y Y ?_
     refine QM (UA (ZC ?_))
     replace S := S.front1.drop.front1.drop.front1
     exact ⟨a7, _, (a3.trans a8), ⟨Y, _, (by (first | exact zk (by assumption) (by omega) | exact List.prefix_refl _ | (rw [Uh (by first | assumption | (intro h9; simp_all; done))]; exact List.prefix_refl _))), f0⟩, S⟩
    ·replace f0 : J ((ZT n1 (pre)).1 ++ [((ZT n1 pre).2) ++ [xa]]) a7 b2 := f0
     refine Ji E Y ?_
     clear E a; intro a E
     refine Qz ?_
     refine QF E Y Y ?_
     refine Qx (JZ (Qh ?_))
     replace S := S.front1
     refine Jm (QS E S Y Y (Tryz.sizeOf22 _) Y ?_)
     clear E a S; rintro a w E S
     refine Jz (ZK ?_)
     replace S := (S.ownNil (e := 3) (sz := 1)).made0
     replace S := S.front3.drop.front2.front1.front2.front2.front2
     replace S := S.re1 (l' := (ZT n1 ((pre ++ [xa]))).2) (by ((rw [Vz (by omega)]; done)))
     replace S := S.front2
     have S0 := S; clear S; have S := (St.pack [Jk a2 (.cells #[(.slice none 0 0)] 22), Jg 3 (.slice none 0 0) ((ZT n1 ((pre ++ [xa]))).2), b2] S0).swap; clear S0
     exact ⟨a7, _, (a3.trans a8), ⟨_, _, Y, Ju f0 (by ((rw [Vz (by omega)]; done))), (by ((intro _; rfl)))⟩, S⟩
   ·refine Qx (ZK ?_)
    replace S := S.front2.drop.front3.front1.front2.front2.front2
    replace S := S.re1 (l' := (ZT n1 ((pre ++ [xa]))).2) (by ((rw [YY (by omega)]; done)))
    replace S := S.front2
    have S0 := S; clear S; have S := (St.pack [Jk a2 (.cells #[b7] 22), Jg 3 b7 ((ZT n1 ((pre ++ [xa]))).2), c0] S0).swap; clear S0
    exact ⟨b6, _, lerf, ⟨_, _, Y, Ju f0 (by ((rw [YY (by omega)]; done))), (by ((rw [YY (by omega)]; intro h9; simp at h9; done)))⟩, S⟩
  ·refine VC (QH E Y (Tryz.isAgg22 _) (Qo (S.mem (.tail _ (.tail _ (.head _))))) fun _ B => Qn B Y ?_)
   clear E a B; intro a E
   refine Qk (QV (ys := [xa]) E S Y QE Y Y Y ?_)
   clear E a S; rintro a w d7 E S
   replace S := S.front1.front1
   refine Qk (JF (xs := (ZT n1 (pre)).2) (ys := [xa]) E S Y Y Y QE (by ((simp only [List.length_append, List.length_cons, List.length_nil]; omega))) ?_)
   clear E a S; rintro a w b8 E S
   have ho_25 := S.oneI
   replace S := S.front2
   refine Jm (QS E S Y Y (Tryz.sizeOf22 _) ho_25 ?_)
   clear E a S; rintro a w E S
   refine QI (QH E Y (Tryz.isAgg22 _) (Qo (S.mem (.head _))) ?_)
   clear E a; intro a E
   replace S := S.front1
   refine Qt E Y QE S.lenC fun _ B => Qb B Y Tryz.isAgg3 S.imm (Qf hbx2) fun _ C => QK C Y Y ?_
   clear E a B C; intro a E
   refine Qz ?_
   refine Ql E Y (fun c6 => ?_) (fun c6 => ?_)
   ·refine UK (Qb E Y Tryz.isAgg153 S.imm (Qf a0) fun _ B => QH B Y (Tryz.isAgg22 _) (Qo (S.mem (.tail _ (.head _)))) ?_)
    clear E a B; intro a E
    have S0 := S; clear S
    obtain ⟨d8, a4, c7, S⟩ := S0.freezeI (by ((simp only [List.length_append, List.length_cons, List.length_nil]; omega)))
    clear S0
    replace a0 := a4.2 _ _ a0
    replace f0 := hJM _ _ _ _ a4 f0
    replace S := S.front2
    refine Qk (JC (x := ((ZT n1 (pre)).2) ++ [xa]) E S Y Y Y hY (a1.trans (a6.trans a4)) (by exact zk (by assumption) (by omega)) ⟨_, Y, c7⟩ f0 ?_)
    clear E a S; rintro a w a9 b3 go_31 b4 f0 S E
    replace a0 := b4.2 _ _ a0
    cases go_31
    ·replace f0 : X ((ZT n1 (pre)).1 ++ [((ZT n1 (pre)).2) ++ [xa]]) a9 b3 := f0
     refine Ji E Y ?_
     clear E a; intro a E
     refine Qz ?_
     refine QY E Y Y ?_
     refine QM (UA (ZC ?_))
     replace S := S.front1.drop.front1
     exact ⟨a9, _, (a4.trans b4), ⟨Y, _, (by (first | exact zk (by assumption) (by omega) | exact List.prefix_refl _ | (rw [Uh (by first | assumption | (intro h9; simp_all; done))]; exact List.prefix_refl _))), f0⟩, S⟩
    ·replace f0 : J ((ZT n1 (pre)).1 ++ [((ZT n1 (pre)).2) ++ [xa]]) a9 b3 := f0
     refine Ji E Y ?_
     clear E a; intro a E
     refine Qz ?_
     refine QF E Y Y ?_
     refine Qx (JZ (Qh ?_))
     replace S := S.front1
     refine Jm (QS E S Y Y (Tryz.sizeOf22 _) Y ?_)
     clear E a S; rintro a w E S
     refine Jz (ZK ?_)
     replace S := (S.ownNil (e := 3) (sz := 1)).made0
     replace S := S.front2.front1.front2.front2.front2
     replace S := S.re1 (l' := (ZT n1 ((pre ++ [xa]))).2) (by ((rw [Vz (by omega)]; done)))
     replace S := S.front2
     have S0 := S; clear S; have S := (St.pack [Jk a2 (.cells #[(.slice none 0 0)] 22), Jg 3 (.slice none 0 0) ((ZT n1 ((pre ++ [xa]))).2), b3] S0).swap; clear S0
     exact ⟨a9, _, (a4.trans b4), ⟨_, _, Y, Ju f0 (by ((rw [Vz (by omega)]; done))), (by ((intro _; rfl)))⟩, S⟩
   ·refine Qx (ZK ?_)
    replace S := S.front3.front1.front2.front2.front2
    replace S := S.re1 (l' := (ZT n1 ((pre ++ [xa]))).2) (by ((rw [YY (by omega)]; done)))
    replace S := S.front2
    have S0 := S; clear S; have S := (St.pack [Jk a2 (.cells #[b8] 22), Jg 3 b8 ((ZT n1 ((pre ++ [xa]))).2), c0] S0).swap; clear S0
    exact ⟨b6, _, lerf, ⟨_, _, Y, Ju f0 (by ((rw [YY (by omega)]; done))), (by ((rw [YY (by omega)]; intro h9; simp at h9; done)))⟩, S⟩
 ·rintro a w c8 _ D_34 a5 ⟨u4, c0, rfl, f0, f1⟩ S E
  replace S := S.unpack3
  replace a0 := a5.2 _ _ a0
  refine ZK (JZ (Qs (QH E Y (Tryz.isAgg22 _) (Qo (S.mem (.head _))) ?_)))
  clear E a; intro a E
  replace S := S.front1
  refine S_w E (R_neqN E Y Y QE.und (nilV S (by assumption))) ?_
  clear E a; intro a E
  refine Qz ?_
  refine Jf E Y (fun c9 => ?_) (fun c9 => ?_)
  ·refine Qh ?_
   refine Qb E Y Tryz.isAgg153 S.imm (Qf a0) fun _ B => QH B Y (Tryz.isAgg22 _) (Qo (S.mem (.tail _ (.head _)))) ?_
   clear E a B; intro a E
   have S0 := S; clear S
   obtain ⟨d9, b0, d0, S⟩ := S0.freezeI (by (omega))
   clear S0
   replace f0 := hJM _ _ _ _ b0 f0
   replace S := S.front1
   refine Qk (JC (x := (ZT n1 (l0)).2) E S Y Y Y hY (a1.trans (a5.trans b0)) (by (rw [Uh (by first | assumption | (intro h9; simp_all; done))]; exact List.prefix_refl _)) ⟨_, Y, d0⟩ f0 ?_)
   clear E a S; rintro a w b1 b9 go_40 c1 f0 S E
   cases go_40
   ·replace f0 : X ((ZT n1 (l0)).1 ++ [(ZT n1 (l0)).2]) b1 b9 := f0
    refine J_Ab ?_
    replace S := S.front1.drop.front1
    exact QR E S Tryz.results331 (fun w S => ⟨_, Y, b1, _, (a1.trans (a5.trans (b0.trans c1))), .inr ⟨((ZT n1 (l0)).1 ++ [(ZT n1 (l0)).2]), (by (first | exact zk (by assumption) (by omega) | exact List.prefix_refl _ | (rw [Uh (by first | assumption | (intro h9; simp_all; done))]; exact List.prefix_refl _) | exact ch_pre (by assumption))), f0⟩, S⟩)
   ·replace f0 : J ((ZT n1 (l0)).1 ++ [(ZT n1 (l0)).2]) b1 b9 := f0
    refine J_Ab ?_
    replace S := S.front1.drop.front1
    have hpre : ((ZT n1 (l0)).1 ++ [(ZT n1 (l0)).2]) = chL n1 l0 := by (exact (Uh (by first | assumption | (intro h9; simp_all; done))).symm)
    rw [hpre] at f0
    exact QR E S Tryz.results331 (fun w S => ⟨_, Y, b1, _, (a1.trans (a5.trans (b0.trans c1))), .inl f0, S⟩)
  ·refine Qx ?_
   refine Yh ?_
   replace S := S.drop.drop.front1
   have hpre : (ZT n1 (l0)).1 = chL n1 l0 := by (exact (zl (by first | assumption | (simp_all; done))).symm)
   rw [hpre] at f0
   exact QR E S Tryz.results331 (fun w S => ⟨_, Y, c8, _, (a1.trans a5), .inl f0, S⟩)
 ·rintro a w d1 c_ D_42 e0 _ d2 e1 ⟨rfl, z_, hz_, f0⟩ S E
  refine QM (ZC (UA ?_))
  replace S := S.front1
  exact QR E S Tryz.results331 (fun w S => ⟨_, Y, d1, _, (a1.trans d2), .inr ⟨z_, (by assumption), f0⟩, S⟩)
theorem it_Chunk {M : Hp} {v0 : Value} {l0 : List Int} (h0 : Jh Tryz.prog v0 M (QB) l0) {n1 : Nat} (hn : 0 < n1) (hb1 : n1 ≤ 1000000) :
  Pu Tryz.prog (.func (.func 304) #[] #[]) M [v0, .int .i64 ((n1 : Nat) : Int)] (fun r M' => Jh Tryz.prog r M' (Vf 1 QB) (chL n1 l0)) := by
 refine Qd Tryz.func304 Y Tryz.ntmps304 Y Tryz.call304 ?_
 intro a w M1 H hM1 S E
 replace h0 := h0.le hM1
 refine Qs ?_
 refine Qk (QA (cs := #[v0]) E S Y Y (cells_one h0.1) ?_)
 clear E a S; rintro a w a6 E S
 obtain ⟨a7, a2, a0, S⟩ := S.freezeB
 replace h0 := h0.le a2
 refine Qk (QA (cs := #[.int .i64 ((n1 : Nat) : Int)]) E S Y Y Y ?_)
 clear E a S; rintro a w a8 E S
 obtain ⟨a4, a1, a3, S⟩ := S.freezeB
 replace h0 := h0.le a1
 replace a0 := a1.2 _ _ a0
 refine Qj E Y fun _ B => Zp (Qb B Y Tryz.isAgg3 S.imm (Qf a3) fun _ C => Vy C Y Y ?_)
 clear E a B C; intro a E
 refine Qz ?_
 have a5 : (decide (((n1 : Nat) : Int) ≤ 0)) = false := by (apply decide_eq_false; omega)
 refine QF E Y a5 ?_
 refine VC (Qv E Y Y fun _ B => Qj B Y ?_)
 clear E a B; intro a E
 refine Jj ?_
 exact Qa E Tryz.results304 Y ⟨_, Y, a4, (a2.trans a1), (Jy (it_Chunk1 (n1 := n1) h0 (by omega) (by omega) a0 a3) (by (rfl))), S⟩
theorem qC {M : Hp} {v1 : Value} {l1 : List (List Int)} (h1 : Jh Tryz.prog v1 M (Vf 1 QB) l1) (hb : l1.length ≤ 1000000) :
  Pu Tryz.prog (.func (.func 330) #[] #[]) M [.slice none 0 0, v1] (fun r M' => Zf M' r l1) := by
 refine Qd Tryz.func330 Y Tryz.ntmps330 Y Tryz.call330 ?_
 intro a w M1 H hM1 S E
 replace h1 := h1.le hM1
 replace S : St w M1 (zt [] :: _) := S.empty
 replace E : Env a 13 (([] : List Nat).map mk) _ := E
 refine Qs ?_
 refine Qk (QA (cs := #[.slice none 0 0]) E S Y Y Y ?_)
 clear E a S; rintro a w a0 E S
 refine Qj E Y fun _ B => Zp (Qn B Y ?_)
 clear E a B; intro a E
 refine ZH ?_
 replace S : St w M1 (Zk 22 1 (.slice none 0 0) ([] : List (List Int)).length [] :: _) := S.ownNil
 have a2 : Zx (Vf 1 QB) 1 M1 ([] : List (List Int)) [] := Zx.nil
 replace S := S.front1
 replace E := E.keep (l' := [(2, .pointer (some ⟨a0, 0, none⟩)), (6, v1)]) ⟨Y, Y, trivial⟩
 replace S := S.front1
 have hre : ([] : List (List Int)) = [] := by first | rfl | (simp; done)
 replace S := S.reR hre
 replace a2 := a2.eq hre
 clear hre
 replace S := S.front1
 have S0 := S; clear S; have S := St.pack [Jk a0 (.cells #[(.slice none 0 0)] 74), Zk 22 1 (.slice none 0 0) [].length []] S0; clear S0
 refine JK (RV := Vf 1 QB) (l := l1) (fun pre M c => ∃ (u2 : Value) (xs2 : List Value), c = Yf [Jk a0 (.cells #[u2] 74), Zk 22 1 u2 pre.length xs2] ∧ (Zx (Vf 1 QB) 1 M pre xs2)) (fun _ _ _ _ => False) E S Y h1 lerf (fun _ _ _ h => by obtain ⟨_, h, _⟩ := h; rw [h]; rfl) (by decide) (by rintro _ M M' c hM ⟨u2, xs2, rfl, fr2⟩; exact ⟨_, _, rfl, fr2.le (JE Jp) hM⟩) ⟨_, _, rfl, a2⟩ ?_ ?_ ?_
 clear E S
 ·rintro lb_5 rec_6 pre xa _ a w b0 _ G b6 a5 ⟨vxa, rfl, a1⟩ ⟨u2, xs2, rfl, fr2⟩ E S
  replace E : Env a 13 [] [(7, vxa), (2, .pointer (some ⟨a0, 0, none⟩)), (6, v1)] := E
  replace a1 : Qy b0 vxa xa := a1
  replace S := S.swap.unpack2
  have hq0 := Js a5
  have hpl := a5.length_le; simp at hpl
  refine Qh (Qj E Y ?_)
  clear E a; intro a E
  refine Qz ?_
  replace S := S.front2
  refine rb S ?_
  clear S; intro w S
  refine QW (Qh (QH E Y (Tryz.isAgg74 _) (Qo (S.mem (.tail _ (.head _)))) fun _ B => Qn B Y ?_))
  clear E a B; intro a E
  refine Qk (Yg (R := Vf 1 QB) (vs := [vxa]) (xs := [xa]) (JE Jp) E S Y Vn Y Y Y (by intro u hu; simp only [List.mem_cons, List.not_mem_nil, or_false] at hu; rcases hu with rfl <;> first | exact Qy.one a1 | rfl) Y (Ve (R := Vf 1 QB) (Qy.row a1) UE) ?_)
  clear E a S; rintro a b1 w a6 a7 a3 S E
  replace a3 : Zf a6 b1 [xa] := a3
  replace fr2 := fr2.le (JE Jp) a7
  replace S := S.front2
  refine Qk (VR (R := (Vf 1 QB)) (zs := pre) (ys := [xa]) E S fr2 Y Y Y Vn a3 Gu (by (simp only [List.length_cons, List.length_nil]; omega)) (by (simp only [List.length_cons, List.length_nil]; omega)) ?_)
  clear E a S; rintro a w a8 b2 E b3 S
  have ho_14 := S.oneC
  replace S := S.front2
  refine Jm (QS E S Y Y (Tryz.sizeOf74 _) ho_14 ?_)
  clear E a S; rintro a w E S
  refine Jz (ZK ?_)
  replace S := S.front1.front1.front1.front1
  have S0 := S; clear S; have S := (St.pack [Jk a0 (.cells #[a8] 74), Zk 22 1 a8 (pre ++ [xa]).length b2] S0).swap; clear S0
  exact ⟨a6, _, a7, ⟨_, _, Y, b3⟩, S⟩
 ·rintro a w b7 _ D_16 b4 ⟨u2, xs2, rfl, fr2⟩ S E
  replace S := S.unpack2
  refine ZK (JZ (Qs (QH E Y (Tryz.isAgg74 _) (Qo (S.mem (.head _))) fun _ B => Qj B Y ?_)))
  clear E a B; intro a E
  refine Jj ?_
  replace S := S.front1
  have S0 := S; clear S
  obtain ⟨a9, b5, a4, S⟩ := S0.freezeR fr2 (JE Jp) (by (omega))
  clear S0
  replace a4 : Zf a9 u2 l1 := a4
  replace S := S.drop
  exact yh E S Tryz.results330 Y (fun w S => ⟨_, Y, a9, (b4.trans b5), a4, S⟩)
 ·rintro _ _ _ _ _ _ _ _ _ hX; exact hX.elim
theorem Uk {M : Hp} {v0 : Value} {l0 : List (List Int)} (h0 : Jh Tryz.prog v0 M (Vf 1 QB) l0) (hb : l0.length ≤ 1000000) :
  Pu Tryz.prog (.func (.func 303) #[] #[]) M [v0] (fun r M' => Zf M' r l0) := by
 refine Qd Tryz.func303 Y Tryz.ntmps303 Y Tryz.call303 ?_
 intro a w M1 H hM1 S E
 replace h0 := h0.le hM1
 refine Qs (Qj E Y fun _ B => QI (Qn B Y ?_))
 clear E a B; intro a E
 refine Qk (Qm E S Y Y Y (qC h0 (by (first | omega | (simp; omega) | (simp; done) | (simp_all; omega) | grind))) lerf ?_)
 clear E a S; rintro a a3 w a0 a1 a2 S E
 refine Qj E Y ?_
 clear E a; intro a E
 refine Jj ?_
 exact Qa E Tryz.results303 Y ⟨_, Y, a0, a1, a2, S⟩
theorem vn {M : Hp} {v0 : Value} {l0 : List Int} {n1 : Nat} (hn : 0 < n1) (hb1 : n1 ≤ 1000000) (hb : l0.length ≤ 1000000) {bx0 bx1 : Nat} (hbx0 : M bx0 = some (.cells #[v0] 22)) (h0 : Qy M v0 l0) (hbx1 : M bx1 = some (.cells #[.int .i64 (n1 : Int)] 3)) :
  Pu Tryz.prog (.func (.func 302) #[] #[.pointer (some ⟨bx0, 0, none⟩), .pointer (some ⟨bx1, 0, none⟩)]) M [] (fun r M' => Zf M' r (chL n1 l0)) := by
 refine Qd Tryz.func302 Y Tryz.ntmps302 Y Tryz.call302 ?_
 intro a w M1 H hM1 S E
 replace hbx0 := hM1.2 _ _ hbx0
 replace hbx1 := hM1.2 _ _ hbx1
 replace h0 := h0.le hM1
 have b0 := h0.bound
 refine Qs (Qj E Y ?_)
 clear E a; intro a E
 refine ZJ ?_
 have hbx0k0 := hbx0
 have hbx1k0 := hbx1
 replace S := S.mono_heap (w' := World.drew _) rfl
 refine Jb (C := fun x w => agree M1 w) (bf := (fun i => [])) [0, 2, 5] [0, 2, 1, 3, 4, 5] Tryz.mixed (by kernel_rfl) (fun x hq => S.imm) ?_
 refine QU E Y (fun w hC => (QQ E Y Tryz.isAgg22 hC (Qf hbx0k0))) fun _ B => QU B Y (fun w hC => (QQ B Y Tryz.isAgg3 hC (Qf hbx1k0))) ?_
 clear E a B; intro a E
 refine ZP Y Y Y (Qm E S Y Y Y (QG h0) lerf ?_)
 clear E a S; rintro a a7 w a8 a0 a3 S E
 refine ⟨fun x hq hb => (Qu a0 S.imm), ?_⟩
 refine ZP Y Y Y (Qm E S Y Y Y (it_Chunk a3 (by omega) (by omega)) lerf ?_)
 clear E a S; rintro a a9 w b1 a1 a4 S E
 refine ⟨fun x hq hb => (Qu (a0.trans a1) S.imm), ?_⟩
 refine ZP Y Y Y (Qm E S Y Y Y (Uk a4 (by exact Nat.le_trans (chL_len (by omega) _) (by omega))) lerf ?_)
 clear E a S; rintro a b2 w a5 a2 a6 S E
 refine ⟨fun x hq hb => (Qu (a0.trans (a1.trans a2)) S.imm), ?_⟩
 refine QU E Y (fun w hC => (Jx E Y)) ?_
 clear E a; intro a E
 refine JI (JH ?_)
 refine JZ (QM ?_)
 exact Qa E Tryz.results302 Y ⟨_, Y, a5, (a0.trans (a1.trans a2)), a6, S⟩
theorem it_ChunkP {M : Hp} {v0 : Value} {l0 : List Int} (h0 : Jh Tryz.prog v0 M (QB) l0){n1 : Nat} (hz : n1 = 0) :
  PuP Tryz.prog (.func (.func 304) #[] #[]) M [v0, .int .i64 ((n1 : Nat) : Int)] := by
 refine GI Tryz.func304 Y Tryz.ntmps304 Y Tryz.call304 ?_
 intro a w M1 H hM1 S E
 replace h0 := h0.le hM1
 refine Qs ?_
 refine Qk (QA (cs := #[v0]) E S Y Y (cells_one h0.1) ?_)
 clear E a S; rintro a w a5 E S
 obtain ⟨a6, a0, a7, S⟩ := S.freezeB
 refine Qk (QA (cs := #[.int .i64 ((n1 : Nat) : Int)]) E S Y Y Y ?_)
 clear E a S; rintro a w a8 E S
 obtain ⟨a1, a2, a3, S⟩ := S.freezeB
 refine Qj E Y fun _ B => Zp (Qb B Y Tryz.isAgg3 S.imm (Qf a3) fun _ C => Vy C Y Y ?_)
 clear E a B C; intro a E
 refine Qz ?_
 have a4 : (decide (((n1 : Nat) : Int) ≤ 0)) = true := by (apply decide_eq_true; omega)
 refine QY E Y a4 ?_
 refine Qh (S_w E (R_ifaceS E Y Tryz.underlying9) ?_)
 clear E a; intro a E
 exact Jm (X_panic E Y (F_panic E ⟨_, _, Y, a1, (a0.trans a2), S⟩))
theorem jN {M : Hp} {v0 : Value} {l0 : List Int} {n1 : Nat} (hz : n1 = 0) {bx0 bx1 : Nat} (hbx0 : M bx0 = some (.cells #[v0] 22)) (h0 : Qy M v0 l0) (hbx1 : M bx1 = some (.cells #[.int .i64 (n1 : Int)] 3)) :
  PuP Tryz.prog (.func (.func 302) #[] #[.pointer (some ⟨bx0, 0, none⟩), .pointer (some ⟨bx1, 0, none⟩)]) M [] := by
 refine GI Tryz.func302 Y Tryz.ntmps302 Y Tryz.call302 ?_
 intro a w M1 H hM1 S E
 replace hbx0 := hM1.2 _ _ hbx0
 replace hbx1 := hM1.2 _ _ hbx1
 replace h0 := h0.le hM1
 refine Qs (Qj E Y ?_)
 clear E a; intro a E
 refine ZJ ?_
 have hbx0k0 := hbx0
 have hbx1k0 := hbx1
 replace S := S.mono_heap (w' := World.drew _) rfl
 refine WP_drawnP (C := fun x w => agree M1 w) (bf := (fun i => [])) [0, 2, 5] [0, 2, 1, 3, 4, 5] Tryz.mixed (by kernel_rfl) (fun x hq => S.imm) ?_
 refine QU E Y (fun w hC => (QQ E Y Tryz.isAgg22 hC (Qf hbx0k0))) fun _ B => QU B Y (fun w hC => (QQ B Y Tryz.isAgg3 hC (Qf hbx1k0))) ?_
 clear E a B; intro a E
 refine ZP Y Y Y (Qm E S Y Y Y (QG h0) lerf ?_)
 clear E a S; rintro a a2 w a3 a0 a1 S E
 refine ⟨fun x hq hb => (Qu a0 S.imm), ?_⟩
 exact ZP Y Y Y (X_puP E S Y Y (it_ChunkP a1 (by assumption)) lerf (fun _ _ w M_ h S => PanQ_p E (fun _ => F_panic0 ⟨_, _, Y, M_, ((a0).trans h), S⟩)))
theorem zd {M : Hp} {v0 : Value} {l0 : List Int} (h0 : Qy M v0 l0){n1 : Nat} (hn : 0 < n1) (hb1 : n1 ≤ 1000000) (hb : l0.length ≤ 1000000) :
  Pu Tryz.prog (.func (.func 221) #[] #[]) M [v0, .int .i64 ((n1 : Nat) : Int)] (fun r M' => ∃ t0, r = .tuple #[t0, .bool true] ∧ Zf M' t0 (chL n1 l0)) := by
 refine Qd Tryz.func221 Y Tryz.ntmps221 Y Tryz.call221 ?_
 intro a w M1 H hM1 S E
 replace h0 := h0.le hM1
 have b0 := h0.bound
 refine Qs ?_
 refine Qk (QA (cs := #[v0]) E S Y Y (cells_one (QX.one' h0)) ?_)
 clear E a S; rintro a w a7 E S
 obtain ⟨a8, a3, a0, S⟩ := S.freezeB
 replace h0 := h0.le a3
 refine Qk (QA (cs := #[.int .i64 ((n1 : Nat) : Int)]) E S Y Y Y ?_)
 clear E a S; rintro a w a9 E S
 obtain ⟨b1, a1, a4, S⟩ := S.freezeB
 replace h0 := h0.le a1
 replace a0 := a1.2 _ _ a0
 refine QD 2 E Y fun _ B => QI (Qv B Y Y ?_)
 clear E a B; intro a E
 refine Qk (Qm E S Y Y Y (Vl ⟨Y, vn  (by omega) (by omega) (by omega) a0 h0 a4⟩) lerf ?_)
 clear E a S; rintro a _ w a5 a2 ⟨b2, rfl, a6⟩ S E
 replace h0 := h0.le a2
 replace a0 := a2.2 _ _ a0
 replace a4 := a2.2 _ _ a4
 refine Qg E Y Y fun _ B => Qg B Y Y fun _ C => QD 2 C Y ?_
 clear E a B C; intro a E
 refine Jj ?_
 exact Zr E Tryz.results221 Y Y ⟨_, Y, a5, (a3.trans (a1.trans a2)), ⟨_, (by rfl), (QX.eqL a6 (by (rfl)))⟩, S⟩
theorem qk {M : Hp} {v0 : Value} {l0 : List Int} (h0 : Qy M v0 l0){n1 : Nat} (hz : n1 = 0) :
  Pu Tryz.prog (.func (.func 221) #[] #[]) M [v0, .int .i64 ((n1 : Nat) : Int)] (fun r M' => ∃ t0, r = .tuple #[t0, .bool false] ∧ Zf M' t0 ([] : List (List Int))) := by
 refine Qd Tryz.func221 Y Tryz.ntmps221 Y Tryz.call221 ?_
 intro a w M1 H hM1 S E
 replace h0 := h0.le hM1
 have b0 := h0.bound
 refine Qs ?_
 refine Qk (QA (cs := #[v0]) E S Y Y (cells_one (QX.one' h0)) ?_)
 clear E a S; rintro a w a7 E S
 obtain ⟨a8, a3, a0, S⟩ := S.freezeB
 replace h0 := h0.le a3
 refine Qk (QA (cs := #[.int .i64 ((n1 : Nat) : Int)]) E S Y Y Y ?_)
 clear E a S; rintro a w a9 E S
 obtain ⟨b1, a1, a4, S⟩ := S.freezeB
 replace h0 := h0.le a1
 replace a0 := a1.2 _ _ a0
 refine QD 2 E Y fun _ B => QI (Qv B Y Y ?_)
 clear E a B; intro a E
 refine Qk (Qm E S Y Y Y (qT ⟨Y, jN  (by assumption) a0 h0 a4⟩) lerf ?_)
 clear E a S; rintro a _ w a5 a2 ⟨b2, rfl, a6⟩ S E
 replace h0 := h0.le a2
 refine Qg E Y Y fun _ B => Qg B Y Y fun _ C => QD 2 C Y ?_
 clear E a B C; intro a E
 refine Jj ?_
 exact Zr E Tryz.results221 Y Y ⟨_, Y, a5, (a3.trans (a1.trans a2)), ⟨_, (by rfl), a6⟩, S⟩
theorem impl_ChunkSeq {M : Hp} {v0 : Value} {l0 : List Int} (h0 : Qy M v0 l0){n1 : Nat} (hb1 : n1 ≤ 1000000) (hb : l0.length ≤ 1000000) :
  Pu Tryz.prog (.func (.func 221) #[] #[]) M [v0, .int .i64 ((n1 : Nat) : Int)] (fun r M' => ∃ t0, r = .tuple #[t0, .bool (decide (0 < n1))] ∧ Zf M' t0 (zX n1 l0)) := by
 rcases Nat.eq_zero_or_pos n1 with h | h
 ·have h9 := qk (M := M) h0 h
  subst h; exact h9
 ·have h9 := zd (M := M) h0 h hb1 hb
  rw [qn h, decide_eq_true h]; exact h9
theorem yR {M : Hp} {v0 : Value} {l0 : List Int} (h0 : Jh Tryz.prog v0 M (QB) l0){v1 : Value} {f1 : Int → Int} (h1 : jd Tryz.prog v1 M f1) (hb : l0.length ≤ 1000000000000) :
  Pu Tryz.prog (.func (.func 305) #[] #[]) M [v0, v1] (fun r M' => Zf M' r (JG f1 l0)) := by
 refine Qd Tryz.func305 Y Tryz.ntmps305 Y Tryz.call305 ?_
 intro a w M1 H hM1 S E
 replace h0 := h0.le hM1
 replace h1 := h1.le hM1
 replace S : St w M1 (zt [] :: _) := S.empty
 replace E : Env a 44 (([] : List Nat).map mk) _ := E
 refine Qs ?_
 refine Qk (QA (cs := #[v1]) E S Y Y (cells_one h1.1) ?_)
 clear E a S; rintro a w a8 E S
 obtain ⟨a9, a6, a2, S⟩ := S.freezeB
 replace h0 := h0.le a6
 replace h1 := h1.le a6
 refine Qj E Y ?_
 clear E a; intro a E
 refine QI ?_
 refine Qk (Ja (cs := #[.slice none 0 0]) E S Y Tryz.zeroValue74 Y ?_)
 clear E a S; rintro a w a1 E S
 refine QI ?_
 refine Qk (Uw E S Y ?_)
 clear E a S; rintro a w a0 E S
 replace S : St w a9 (Zd (Value.int .i64) a0 ([] : List (Int × Int)) :: _) := S
 refine Qk (Ja (cs := #[.map none]) E S Y Tryz.zeroValue150 Y ?_)
 clear E a S; rintro a w a3 E S
 refine Jm (QS E S Y Y (Tryz.sizeOf150 _) Y ?_)
 clear E a S; rintro a w E S
 refine Zp (Qn E Y ?_)
 clear E a; intro a E
 refine ZH ?_
 replace S := S.front2
 replace S : St w a9 (Zk 22 1 (.slice none 0 0) 0 [] :: _) := S.ownNil
 replace S := newLL (e := 3) S
 replace S := S.front2.front3.front2.front3.front3
 replace E := E.keep (l' := [(3, .pointer (some ⟨a8, 0, none⟩)), (5, .pointer (some ⟨a1, 0, none⟩)), (6, .pointer (some ⟨a3, 0, none⟩)), (12, v0)]) ⟨Y, Y, Y, Y, trivial⟩
 replace S := S.front3
 replace S := S.reM (L' := (Jd (Value.int .i64) (JS f1 (([] : List Int))))) (congrArg (Jd (Value.int .i64)) (show ([] : List (Int × Int)) = JS f1 (([] : List Int)) by first | rfl | (simp [JG, JS, Zm]; done) | exact VM (by assumption) (by assumption) | exact VK (by assumption) | exact VN (by assumption) | exact VL (by assumption)))
 replace S := S.front3
 replace S := reLL S (show ([] : List (List Int)) = JG f1 (([] : List Int)) by first | rfl | (simp [JG, JS, Zm]; done) | exact VM (by assumption) (by assumption) | exact VK (by assumption) | exact VN (by assumption) | exact VL (by assumption))
 replace S := S.front3.front3
 have S0 := S; clear S; have S := St.pack [Jk a3 (.cells #[.map (some a0)] 150), Jk a1 (.cells #[(.slice none 0 0)] 74), VA 22 3 (.slice none 0 0) (JG f1 (([] : List Int))), Zd (Value.int .i64) a0 (JS f1 (([] : List Int)))] S0; clear S0
 refine JK (RV := QB) (l := l0) (fun pre M c => ∃ (u5 : Value), c = Yf [Jk a3 (.cells #[.map (some a0)] 150), Jk a1 (.cells #[u5] 74), VA 22 3 u5 (JG f1 (pre)), Zd (Value.int .i64) a0 (JS f1 (pre))]) (fun _ _ _ _ => False) E S Y h0 lerf (fun _ _ _ h => by rw [h]; rfl) (by decide) (by rintro _ M M' c hM ⟨u5, rfl⟩; exact ⟨_, rfl⟩) ⟨_, rfl⟩ ?_ ?_ ?_
 clear E S
 ·rintro lb_8 rec_9 pre x _ a w c2 _ G b0 b1 rfl ⟨u5, rfl⟩ E S
  replace E : Env a 44 [] [(13, .int .i64 x), (3, .pointer (some ⟨a8, 0, none⟩)), (5, .pointer (some ⟨a1, 0, none⟩)), (6, .pointer (some ⟨a3, 0, none⟩)), (12, v0)] := E
  replace S := S.swap.unpack4
  have hq0 := Js b1
  replace h1 := h1.le b0
  replace a2 := b0.2 _ _ a2
  have hpl := b1.length_le; simp at hpl
  refine Qh (Qj E Y ?_)
  clear E a; intro a E
  refine Qz ?_
  replace S := S.front4
  refine rb S ?_
  clear S; intro w S
  refine QW (Qs (Qb E Y Tryz.isAgg90 S.imm (Qf a2) fun _ B => Qn B Y ?_))
  clear E a B; intro a E
  refine Qk (Qm E S Y Y Y (h1.2 x) lerf ?_)
  clear E a S; rintro a _ w a5 a7 rfl S E
  replace a2 := a7.2 _ _ a2
  refine Qj E Y fun _ B => QI (QH B Y (Tryz.isAgg150 _) (Qo (S.mem (.tail _ (.head _)))) fun _ D => Qn D Y ?_)
  clear E a B D; intro a E
  replace S := S.front4
  refine Qk (Yb (vf := (Value.int .i64)) (zb := (0 : Int)) E S Y MT150 Y Y ?_)
  clear E a S; rintro a w E S
  replace S : St w a5 (Zd (Value.int .i64) a0 (JS f1 (pre)) :: _) := S
  refine Qn E Y fun _ B => Qg B Y Y fun _ D => Qg D Y Y fun _ F => QD 2 F Y fun _ I => QI (Qn I Y ?_)
  clear E a B D F I; intro a E
  refine Qz ?_
  refine Jf E Y (fun b2 => ?_) (fun b2 => ?_)
  ·obtain ⟨jx, hj1, hj2, hj3⟩ := seen_at b2
   replace E := E.ival (t := 9) (c := ((jx : Nat) : Int)) Y (by omega)
   replace S := S.front4
   have S0 := S; clear S
   obtain ⟨c3, rest_15, b5, l_17, b3, hl_19, back_20, S⟩ := lookLL jx (by omega) S0
   clear S0
   have hb_1k20 := a2
   replace S := S.mono_heap (w' := World.drew _) rfl
   obtain ⟨b6, a4⟩ := S.ptrC (k := jx) (by omega)
   refine Jb (C := fun x w => agree a5 w ∧ (x = 0 → w.heap[a1]? = some (.cells #[u5] 74)) ∧ (x = 2 → w.heap[a1]? = some (.cells #[u5] 74)) ∧ (x = 5 → w.cell? b6 = some b5)) (bf := (fun i => bif Nat.beq i 7 then [] else bif Nat.beq i 8 then [2, 5] else bif Nat.beq i 10 then [0, 2, 5] else [])) [0, 1, 2, 3, 4, 5, 6, 9] [0, 1, 2, 3, 4, 5, 6, 7, 8, 9, 10] Tryz.mixed (by kernel_rfl) (fun x hq => ⟨S.imm, fun _ => (S.mem (.tail _ (.tail _ (.tail _ (.tail _ (.tail _ (.tail _ (.head _)))))))), fun _ => (S.mem (.tail _ (.tail _ (.tail _ (.tail _ (.tail _ (.tail _ (.head _)))))))), fun _ => S.cellC a4 b3⟩) ?_
   refine QU E Y (fun w hC => (ZF E Y (Tryz.isAgg74 _) (Qo (hC.2.1 Y)))) fun _ B => QU B Y (fun w hC => (QL B Y)) fun _ D => QU D Y (fun w hC => (ZF D Y (Tryz.isAgg74 _) (Qo (hC.2.2.1 Y)))) fun _ F => QU F Y (fun w hC => (QL F Y)) fun _ I => QU I Y (fun w hC => (ZO I Y Y Vn a4 Y)) fun _ J => QU J Y (fun w hC => (ZF J Y (Tryz.isAgg22 _) (hC.2.2.2 Y))) fun _ K => QU K Y (fun w hC => (QL K Y)) ?_
   clear E a B D F I J K; intro a E
   refine ZP Y Y Y (QV (ys := [x]) E S Y QE Y Y Y ?_)
   clear E a S; rintro a w c4 E S
   refine ⟨fun x hq hb => ⟨(Qu lerf S.imm), (fun _ => (S.mem (.tail _ (.tail _ (.tail _ (.tail _ (.tail _ (.tail _ (.tail _ (.head _)))))))))), (fun _ => (S.mem (.tail _ (.tail _ (.tail _ (.tail _ (.tail _ (.tail _ (.tail _ (.head _)))))))))), (fun _ => S.front1.cellC a4 b3)⟩, ?_⟩
   replace S := S.front2.front1
   refine ZP Y Y Y (JF (xs := l_17) (ys := [x]) E S Y Y Y QE (by ((have h9 := qI (List.mem_of_getElem? (by assumption)); simp only [List.length_take, List.length_cons, List.length_nil] at *; omega))) ?_)
   clear E a S; rintro a w c5 E S
   refine ⟨fun x hq hb => ⟨(Qu lerf S.imm), (fun _ => (S.mem (.tail _ (.tail _ (.tail _ (.tail _ (.tail _ (.tail _ (.head _))))))))), (fun e => by subst e; exact absurd hb (by decide)), (fun e => by subst e; exact absurd hb (by decide))⟩, ?_⟩
   refine QU E Y (fun w hC => (ZO E Y Y Vn a4 Y)) ?_
   clear E a; intro a E
   replace S := S.front2.front1
   have ho_24 := S.oneI
   replace S := S.front2
   refine ZP Y Y Y (vB E S Y Y (Tryz.sizeOf22 _) ho_24 a4 ?_)
   clear E a S; rintro a w E S
   replace S := back_20 _ _ _ _ _ S
   refine ⟨fun x hq hb => ⟨(Qu lerf S.imm), (fun e => by subst e; exact absurd hb (by decide)), (fun e => by subst e; exact absurd hb (by decide)), (fun e => by subst e; exact absurd hb (by decide))⟩, ?_⟩
   refine JI (JH ?_)
   refine ZK ?_
   replace S := S.front1.front1.front4.front4.front3
   replace S := S.reM (L' := (Jd (Value.int .i64) (JS f1 ((pre ++ [x]))))) (congrArg (Jd (Value.int .i64)) (show JS f1 (pre) = JS f1 ((pre ++ [x])) by first | rfl | (simp [JG, JS, Zm]; done) | exact VM (by assumption) (by assumption) | exact VK (by assumption) | exact VN (by assumption) | exact VL (by assumption)))
   replace S := S.front3
   replace S := reLL S (show (JG f1 (pre)).set jx (l_17 ++ [x]) = JG f1 ((pre ++ [x])) by first | rfl | (simp [JG, JS, Zm]; done) | exact VM (by assumption) (by assumption) | exact VK (by assumption) | exact VN (by assumption) | exact VL (by assumption))
   replace S := S.front3.front3
   have S0 := S; clear S; have S := (St.pack [Jk a3 (.cells #[.map (some a0)] 150), Jk a1 (.cells #[u5] 74), VA 22 3 u5 (JG f1 ((pre ++ [x]))), Zd (Value.int .i64) a0 (JS f1 ((pre ++ [x])))] S0).swap; clear S0
   exact ⟨a5, _, a7, ⟨_, Y⟩, S⟩
  ·refine Je ?_
   refine Qh (QH E Y (Tryz.isAgg150 _) (Qo (S.mem (.tail _ (.tail _ (.head _))))) fun _ B => Qn B Y fun _ D => QH D Y (Tryz.isAgg74 _) (Qo (S.mem (.tail _ (.tail _ (.tail _ (.head _)))))) ?_)
   clear E a B D; intro a E
   replace S := S.front4
   refine Qt E Y Vn (lenLL S) ?_
   clear E a; intro a E
   replace S := S.front1
   refine Jm (ZZ (vf := (Value.int .i64)) (u := (((JG f1 (pre)).length : Nat) : Int)) E S MT150 Y Y Y ?_)
   clear E a S; rintro a w E S
   refine zw (QH E Y (Tryz.isAgg74 _) (Qo (S.mem (.tail _ (.tail _ (.tail _ (.tail _ (.head _))))))) fun _ B => Qn B Y ?_)
   clear E a B; intro a E
   refine Qk (QV (ys := [x]) E S Y QE Y Y Y ?_)
   clear E a S; rintro a w b7 E S
   have ho_27 := S.oneI
   refine Qk (Wg (vs := [b7]) E S Y Vn Y Y Y (by intro u hu; simp only [List.mem_cons, List.not_mem_nil, or_false] at hu; rw [hu]; exact ho_27) ?_)
   clear E a S; rintro a w c6 E S
   replace S := S.front3.front2.front2
   refine Qk (vE E S Y Y Y Vn (by ((have h9 := Ws f1 pre; omega))) (by ((have h9 := Ws f1 pre; omega))) ?_)
   clear E a S; rintro a w b4 E S
   have ho_29 := oneLL S
   replace S := S.front4
   refine Jm (QS E S Y Y (Tryz.sizeOf74 _) ho_29 ?_)
   clear E a S; rintro a w E S
   refine Jz (ZK ?_)
   replace S := S.front2.front2.front2.front4.front3
   replace S := S.reM (L' := (Jd (Value.int .i64) (JS f1 ((pre ++ [x]))))) (congrArg (Jd (Value.int .i64)) (show Zj (JS f1 (pre)) (f1 x) (((JG f1 (pre)).length : Nat) : Int) = JS f1 ((pre ++ [x])) by first | rfl | (simp [JG, JS, Zm]; done) | exact VM (by assumption) (by assumption) | exact VK (by assumption) | exact VN (by assumption) | exact VL (by assumption)))
   replace S := S.front3
   replace S := reLL S (show (JG f1 (pre)) ++ [[x]] = JG f1 ((pre ++ [x])) by first | rfl | (simp [JG, JS, Zm]; done) | exact VM (by assumption) (by assumption) | exact VK (by assumption) | exact VN (by assumption) | exact VL (by assumption))
   replace S := S.front3.front3
   have S0 := S; clear S; have S := (St.pack [Jk a3 (.cells #[.map (some a0)] 150), Jk a1 (.cells #[b4] 74), VA 22 3 b4 (JG f1 ((pre ++ [x]))), Zd (Value.int .i64) a0 (JS f1 ((pre ++ [x])))] S0).swap; clear S0
   exact ⟨a5, _, a7, ⟨_, Y⟩, S⟩
 ·rintro a w c7 _ D_31 b8 ⟨u5, rfl⟩ S E
  replace S := S.unpack4
  refine ZK (JZ (Qs (QH E Y (Tryz.isAgg74 _) (Qo (S.mem (.tail _ (.head _)))) fun _ B => Qj B Y ?_)))
  clear E a B; intro a E
  refine Jj ?_
  replace S := S.front2
  have S0 := S; clear S
  obtain ⟨b9, c0, c1, S⟩ := frzLL S0 (by (exact fun e he => Nat.le_trans (qI he) (by omega))) (by (exact Nat.le_trans (Ws _ _) (by first | omega | (rw [List.length_take]; omega))))
  clear S0
  replace S := S.drop.drop.drop
  exact yh E S Tryz.results305 Y (fun w S => ⟨_, Y, b9, (a6.trans (b8.trans c0)), (QX.eqL c1 (by (rfl))), S⟩)
 ·rintro _ _ _ _ _ _ _ _ _ hX; exact hX.elim
theorem GN {M : Hp} {v0 : Value} {l0 : List Int} (h0 : Qy M v0 l0){kk1 kn1 : Int} (gk1 : -9223372036854775808 ≤ kn1 ∧ kn1 ≤ 9223372036854775807) (hb : l0.length ≤ 1000000000000) :
  Pu Tryz.prog (.func (.func 222) #[] #[]) M [v0, .agg #[.int .i64 kk1, .int .i64 kn1]] (fun r M' => Zf M' r (JG (fun x => JL kk1 kn1 x 0) l0)) := by
 refine Qd Tryz.func222 Y Tryz.ntmps222 Y Tryz.call222 ?_
 intro a w M1 H hM1 S E
 replace h0 := h0.le hM1
 have b0 := h0.bound
 refine Qs ?_
 refine Qk (QA (cs := #[.int .i64 kk1, .int .i64 kn1]) E S Y Y Y ?_)
 clear E a S; rintro a w a8 E S
 obtain ⟨a3, a1, a4, S⟩ := S.freezeB
 replace h0 := h0.le a1
 refine Qj E Y ?_
 clear E a; intro a E
 refine ZJ ?_
 have hb_1k2 := a4
 replace S := S.mono_heap (w' := World.drew _) rfl
 refine Jb (C := fun x w => agree a3 w) (bf := (fun i => [])) [0, 2, 3, 5] [0, 2, 3, 1, 4, 5] Tryz.mixed (by kernel_rfl) (fun x hq => S.imm) ?_
 refine QU E Y (fun w hC => (QL E Y)) fun _ B => QU B Y (fun w hC => (ZW B Y (Tryz.isAgg30 _) (Tryz.sizeOf30 _) hC hb_1k2)) fun _ D => QU D Y (fun w hC => (ZV D Y Y)) ?_
 clear E a B D; intro a E
 refine ZP Y Y Y (Qm E S Y Y Y (QG h0) lerf ?_)
 clear E a S; rintro a a9 w b1 a0 a5 S E
 refine ⟨fun x hq hb => (Qu a0 S.imm), ?_⟩
 refine ZP Y Y Y (Qm E S Y Y Y (yR a5 ⟨Y, fun zx1 => Gk (x1 := zx1) (by omega)⟩ (by (omega))) lerf ?_)
 clear E a S; rintro a b2 w a6 a2 a7 S E
 refine ⟨fun x hq hb => (Qu (a0.trans a2) S.imm), ?_⟩
 refine QU E Y (fun w hC => (Jx E Y)) ?_
 clear E a; intro a E
 refine JI (JH ?_)
 refine JZ (QM ?_)
 exact Qa E Tryz.results222 Y ⟨_, Y, a6, (a1.trans (a0.trans a2)), a7, S⟩
theorem it_Sliding1 {M : Hp} {v0 : Value} {l0 : List Int} (h0 : Jh Tryz.prog v0 M (QB) l0) {n1 n2 : Nat} (hn : 0 < n1) (hs : 0 < n2) (hb1 : n1 ≤ 1000000) (hb2 : n2 ≤ 1000000) {bx1 bx2 bx3 : Nat} (hbx1 : M bx1 = some (.cells #[.int .i64 (n1 : Int)] 3)) (hbx2 : M bx2 = some (.cells #[.int .i64 (n2 : Int)] 3)) (hbx3 : M bx3 = some (.cells #[v0] 62)) :
  Jh Tryz.prog (.func (.func 332) #[] #[.pointer (some ⟨bx1, 0, none⟩), .pointer (some ⟨bx2, 0, none⟩), .pointer (some ⟨bx3, 0, none⟩)]) M (Vf 1 QB) (Vb n1 n2 l0) := by
 refine Jw Tryz.func332 Y Tryz.ntmps332 Y Tryz.call332 ?_
 intro y J X a w M1 c H hJM hM1 hY hJ S E
 replace h0 := h0.le hM1
 replace hbx1 := hM1.2 _ _ hbx1
 replace hbx2 := hM1.2 _ _ hbx2
 replace hbx3 := hM1.2 _ _ hbx3
 refine Qs ?_
 refine Qk (QA (cs := #[y]) E S Y Y (cells_one hY.1) ?_)
 clear E a S; rintro a w b0 E S
 obtain ⟨f8, a4, a0, S⟩ := S.freezeB
 replace h0 := h0.le a4
 replace hbx1 := a4.2 _ _ hbx1
 replace hbx2 := a4.2 _ _ hbx2
 replace hbx3 := a4.2 _ _ hbx3
 replace hJ := hJM _ _ _ _ a4 hJ
 refine QI (Qb E Y Tryz.isAgg3 S.imm (Qf hbx1) ?_)
 clear E a; intro a E
 refine Qk (YM (k := n1) E S Y Y Y QE (by omega) (by omega) (by omega) (by omega) ?_)
 clear E a S; rintro a w b1 E S
 replace S := S.madeI
 refine Qk (Ja (cs := #[.slice none 0 0]) E S Y Tryz.zeroValue22 Y ?_)
 clear E a S; rintro a w a1 E S
 replace S := S.front1
 have ho_5 := S.oneI
 replace S := S.front1
 refine Jm (QS E S Y Y (Tryz.sizeOf22 _) ho_5 ?_)
 clear E a S; rintro a w E S
 refine QI ?_
 refine Qk (Ja (cs := #[.int .i64 0]) E S Y Tryz.zeroValue3 Y ?_)
 clear E a S; rintro a w a2 E S
 refine Jm (QS E S Y Y (Tryz.sizeOf3 _) Y ?_)
 clear E a S; rintro a w E S
 refine QI (Qb E Y Tryz.isAgg3 S.imm (Qf hbx2) fun _ B => Qb B Y Tryz.isAgg3 S.imm (Qf hbx1) fun _ D => JT (m := ((n2 : Nat) : Int) - ((n1 : Nat) : Int)) D Y Y ?_)
 clear E a B D; intro a E
 refine Qk (Ja (cs := #[.int .i64 0]) E S Y Tryz.zeroValue3 Y ?_)
 clear E a S; rintro a w a3 E S
 refine Jm (QS E S Y Y (Tryz.sizeOf3 _) Y ?_)
 clear E a S; rintro a w E S
 refine J_w (QH E Y (Tryz.isAgg3 _) (Qo (S.mem (.head _))) fun _ B => QK B Y Y fun _ D => Qj D Y ?_)
 clear E a B D; intro a E
 refine Qz ?_
 refine Ql E Y (fun d7 => ?_) (fun d7 => ?_)
 ·refine Qs (Qb E Y Tryz.isAgg62 S.imm (Qf hbx3) ?_)
  clear E a; intro a E
  refine ZH ?_
  replace S := S.front2.front5.front3.front3.front4.front4
  replace E := E.keep (l' := [(1, .pointer (some ⟨bx1, 0, none⟩)), (4, .pointer (some ⟨b0, 0, none⟩)), (5, .pointer (some ⟨a1, 0, none⟩)), (6, .pointer (some ⟨a2, 0, none⟩)), (41, v0)]) ⟨Y, Y, Y, Y, Y, trivial⟩
  replace S := S.front4.front4
  replace S := S.blk_int (j := (((JU n1 n2 (([] : List Int))).cnt : Nat) : Int)) (by (rfl))
  replace S := S.front4.front4
  replace S := S.re1 (l' := (JU n1 n2 (([] : List Int))).buf) (by rfl)
  replace S := S.front4
  have S0 := S; clear S; have S := St.pack [Jk a1 (.cells #[b1] 22), Jg 3 b1 ((JU n1 n2 (([] : List Int))).buf), Jk a3 (.cells #[.int .i64 (((n2 : Nat) : Int) - ((n1 : Nat) : Int))] 3), Jk a2 (.cells #[.int .i64 (((JU n1 n2 (([] : List Int))).cnt : Nat) : Int)] 3), c] S0; clear S0
  refine JK (RV := QB) (l := l0) (fun pre M c => ∃ (u5 : Value) (c0 : Qr), c = Yf [Jk a1 (.cells #[u5] 22), Jg 3 u5 ((JU n1 n2 (pre)).buf), Jk a3 (.cells #[.int .i64 (((n2 : Nat) : Int) - ((n1 : Nat) : Int))] 3), Jk a2 (.cells #[.int .i64 (((JU n1 n2 (pre)).cnt : Nat) : Int)] 3), c0] ∧ (J ((JU n1 n2 (pre)).out) M c0)) (fun cd pre M c => cd = .ret ∧ ∃ z, z <+: (Vb n1 n2 l0) ∧ X z M c) E S Y h0 lerf (fun _ _ _ h => by rw [h]; rfl) (by decide) (by rintro _ M M' c hM ⟨u5, c0, rfl, f0⟩; exact ⟨_, _, rfl, hJM _ _ _ _ hM f0⟩) ⟨_, _, rfl, Ju hJ (by rfl)⟩ ?_ ?_ ?_
  clear E S
  ·rintro lb_10 rec_11 pre xa _ a w d1 _ G b2 d8 rfl ⟨u5, c0, rfl, f0⟩ E S
   replace E : Env a 86 [] [(42, .int .i64 xa), (1, .pointer (some ⟨bx1, 0, none⟩)), (4, .pointer (some ⟨b0, 0, none⟩)), (5, .pointer (some ⟨a1, 0, none⟩)), (6, .pointer (some ⟨a2, 0, none⟩)), (41, v0)] := E
   replace S := S.swap.unpack
   have hq0 := Js d8
   replace h0 := h0.le b2
   replace hbx1 := b2.2 _ _ hbx1
   replace hbx2 := b2.2 _ _ hbx2
   replace hbx3 := b2.2 _ _ hbx3
   replace a0 := b2.2 _ _ a0
   have hsl := yq hn hs pre
   refine Qh (QH E Y (Tryz.isAgg22 _) (Qo (S.mem (.head _))) fun _ B => QH B Y (Tryz.isAgg3 _) (Qo (S.mem (.tail _ (.tail _ (.tail _ (.head _)))))) ?_)
   clear E a B; intro a E
   replace S := S.front1
   obtain ⟨f9, d2⟩ := S.ptrC (k := (JU n1 n2 (pre)).cnt) (by (omega))
   refine QZ E Y Y QE d2 Y ?_
   clear E a; intro a E
   refine Jm (YH E S Y Y (Tryz.sizeOf3 _) d2 ?_)
   clear E a S; rintro a w E S
   refine Qz ?_
   replace S := S.front5
   refine rb S ?_
   clear S; intro w S
   refine QW (Qs (QH E Y (Tryz.isAgg3 _) (Qo (S.mem (.tail _ (.tail _ (.tail _ (.tail _ (.head _))))))) fun _ B => Qp (m := (((JU n1 n2 (pre)).cnt + 1 : Nat) : Int)) B Y Y ?_))
   clear E a B; intro a E
   replace S := S.front4
   refine Jm (QS E S Y Y (Tryz.sizeOf3 _) Y ?_)
   clear E a S; rintro a w E S
   refine QI (QH E Y (Tryz.isAgg3 _) (Qo (S.mem (.head _))) fun _ B => Qb B Y Tryz.isAgg3 S.imm (Qf hbx1) fun _ D => QK D Y Y ?_)
   clear E a B D; intro a E
   refine Qz ?_
   refine Ql E Y (fun d9 => ?_) (fun d9 => ?_)
   ·refine Je (Je ?_)
    have hbx1k15 := hbx1
    have hb_1k15 := a0
    replace S := S.mono_heap (w' := World.drew _) rfl
    refine Jb (C := fun x w => agree d1 w ∧ (x = 3 → w.heap[a1]? = some (.cells #[u5] 22))) (bf := (fun i => bif Nat.beq i 2 then [] else bif Nat.beq i 4 then [3] else bif Nat.beq i 5 then [3] else [])) [0, 1, 3, 6] [0, 1, 3, 2, 4, 5, 6] Tryz.mixed (by kernel_rfl) (fun x hq => ⟨S.imm, fun _ => (S.mem (.tail _ (.tail _ (.tail _ (.head _)))))⟩) ?_
    refine QU E Y (fun w hC => (QQ E Y Tryz.isAgg153 hC.1 (Qf hb_1k15))) fun _ B => QU B Y (fun w hC => (QQ B Y Tryz.isAgg3 hC.1 (Qf hbx1k15))) fun _ D => QU D Y (fun w hC => (ZF D Y (Tryz.isAgg22 _) (Qo (hC.2 Y)))) ?_
    clear E a B D; intro a E
    refine ZP Y Y Y (JD (k := n1) E S Y Y Y QE Y (by omega) (by omega) (by omega) ?_)
    clear E a S; rintro a w g0 E S
    replace S := S.made0
    refine ⟨fun x hq hb => ⟨(Qu lerf S.imm), (fun _ => (S.mem (.tail _ (.tail _ (.tail _ (.tail _ (.head _)))))))⟩, ?_⟩
    replace S := S.front3
    refine ZP Y Y Y (zZ (xs := ([] : List Int)) (ys := ((JU n1 n2 (pre)).buf).set ((JU n1 n2 (pre)).cnt) xa) E S Y Y Y QE (by ((simp; omega))) ?_)
    clear E a S; rintro a w g1 E S
    refine ⟨fun x hq hb => ⟨(Qu lerf S.imm), (fun e => by subst e; exact absurd hb (by decide))⟩, ?_⟩
    have S0 := S; clear S
    obtain ⟨g2, a5, e0, S⟩ := S0.freezeI (by ((simp; omega)))
    clear S0
    replace h0 := h0.le a5
    replace hbx1 := a5.2 _ _ hbx1
    replace hbx2 := a5.2 _ _ hbx2
    replace hbx3 := a5.2 _ _ hbx3
    replace a0 := a5.2 _ _ a0
    replace f0 := hJM _ _ _ _ a5 f0
    replace S := S.front5
    refine ZP Y Y Y (JC (x := [] ++ (((JU n1 n2 (pre)).buf).set ((JU n1 n2 (pre)).cnt) xa)) E S Y Y Y hY (a4.trans (b2.trans a5)) (by exact Up hn hs (by assumption) (hsl.2.2.1 (by omega)) (by omega)) ⟨_, Y, e0⟩ f0 ?_)
    clear E a S; rintro a w c3 c5 go_22 a7 f0 S E
    replace h0 := h0.le a7
    replace hbx1 := a7.2 _ _ hbx1
    replace hbx2 := a7.2 _ _ hbx2
    replace hbx3 := a7.2 _ _ hbx3
    replace a0 := a7.2 _ _ a0
    refine ⟨fun x hq hb => ⟨(Qu (a5.trans a7) S.imm), (fun e => by subst e; exact absurd hb (by decide))⟩, ?_⟩
    cases go_22
    ·replace f0 : X ((JU n1 n2 (pre)).out ++ [[] ++ (((JU n1 n2 (pre)).buf).set ((JU n1 n2 (pre)).cnt) xa)]) c3 c5 := f0
     refine QU E Y (fun w hC => (YN E Y)) ?_
     clear E a; intro a E
     refine JI (JH ?_)
     refine JZ ?_
     refine QY E Y Y ?_
     refine QM (UA (ZC ?_))
     replace S := S.front1.drop.front1.drop.front2.drop.front2.drop.front1
     exact ⟨c3, _, (a5.trans a7), ⟨Y, _, (by (first | exact Up hn hs (by assumption) (hsl.2.2.1 (by omega)) (by omega) | exact Up hn hs (by assumption) (by omega) (by omega))), f0⟩, S⟩
    ·replace f0 : J ((JU n1 n2 (pre)).out ++ [[] ++ (((JU n1 n2 (pre)).buf).set ((JU n1 n2 (pre)).cnt) xa)]) c3 c5 := f0
     refine QU E Y (fun w hC => (YN E Y)) ?_
     clear E a; intro a E
     refine JI (JH ?_)
     refine JZ ?_
     refine QF E Y Y ?_
     refine Qx (JZ (Qh ?_))
     replace S := S.front2
     refine Jm (QS E S Y Y (Tryz.sizeOf3 _) Y ?_)
     clear E a S; rintro a w E S
     refine Jz (ZK ?_)
     replace S := S.front1.front1.front5.front3.front5.front4.front4
     replace S := S.blk_int (j := (((JU n1 n2 ((pre ++ [xa]))).cnt : Nat) : Int)) (by ((rw [sl_le (by omega) (hsl.2.2.1 (by omega)) (by omega)]; simp; omega)))
     replace S := S.front4.front4
     replace S := S.re1 (l' := (JU n1 n2 ((pre ++ [xa]))).buf) (by (rw [sl_le (by omega) (hsl.2.2.1 (by omega)) (by omega)]; exact sl_same (by rw [List.length_set]; exact hsl.1) (by omega)))
     replace S := S.front4
     have S0 := S; clear S; have S := (St.pack [Jk a1 (.cells #[u5] 22), Jg 3 u5 ((JU n1 n2 ((pre ++ [xa]))).buf), Jk a3 (.cells #[.int .i64 (((n2 : Nat) : Int) - ((n1 : Nat) : Int))] 3), Jk a2 (.cells #[.int .i64 (((JU n1 n2 ((pre ++ [xa]))).cnt : Nat) : Int)] 3), c5] S0).swap; clear S0
     exact ⟨c3, _, (a5.trans a7), ⟨_, _, Y, Ju f0 (by ((rw [sl_le (by omega) (hsl.2.2.1 (by omega)) (by omega)]; rfl)))⟩, S⟩
   ·refine Qx (ZK ?_)
    replace S := S.front5.front1.front5.front4.front5.front4.front4
    replace S := S.blk_int (j := (((JU n1 n2 ((pre ++ [xa]))).cnt : Nat) : Int)) (by ((rw [VT (hsl.2.2.1 (by omega)) (by omega)]; done)))
    replace S := S.front4.front4
    replace S := S.re1 (l' := (JU n1 n2 ((pre ++ [xa]))).buf) (by (rw [VT (hsl.2.2.1 (by omega)) (by omega)]; done))
    replace S := S.front4
    have S0 := S; clear S; have S := (St.pack [Jk a1 (.cells #[u5] 22), Jg 3 u5 ((JU n1 n2 ((pre ++ [xa]))).buf), Jk a3 (.cells #[.int .i64 (((n2 : Nat) : Int) - ((n1 : Nat) : Int))] 3), Jk a2 (.cells #[.int .i64 (((JU n1 n2 ((pre ++ [xa]))).cnt : Nat) : Int)] 3), c0] S0).swap; clear S0
    exact ⟨d1, _, lerf, ⟨_, _, Y, Ju f0 (by ((rw [VT (hsl.2.2.1 (by omega)) (by omega)]; done)))⟩, S⟩
  ·rintro a w e1 _ D_24 b3 ⟨u5, c0, rfl, f0⟩ S E
   replace S := S.unpack
   replace h0 := h0.le b3
   replace hbx1 := b3.2 _ _ hbx1
   replace hbx2 := b3.2 _ _ hbx2
   replace hbx3 := b3.2 _ _ hbx3
   replace a0 := b3.2 _ _ a0
   refine ZK (ZK (Yh ?_))
   replace S := S.drop.drop.drop.drop.front1
   have hpre : (JU n1 n2 (l0)).out = Vb n1 n2 l0 := by (exact sl_out hn hs _)
   rw [hpre] at f0
   exact QR E S Tryz.results332 (fun w S => ⟨_, Y, e1, _, (a4.trans b3), .inl f0, S⟩)
  ·rintro a w e2 c_ D_26 g3 _ b4 g4 ⟨rfl, z_, hz_, f0⟩ S E
   replace h0 := h0.le b4
   replace hbx1 := b4.2 _ _ hbx1
   replace hbx2 := b4.2 _ _ hbx2
   replace hbx3 := b4.2 _ _ hbx3
   replace a0 := b4.2 _ _ a0
   refine QM (ZC (ZC ?_))
   replace S := S.front1
   exact QR E S Tryz.results332 (fun w S => ⟨_, Y, e2, _, (a4.trans b4), .inr ⟨z_, (by assumption), f0⟩, S⟩)
 ·refine Qs (QH E Y (Tryz.isAgg3 _) (Qo (S.mem (.head _))) fun _ B => Jc B Y Y fun _ D => Qj D Y ?_)
  clear E a B D; intro a E
  refine Qz ?_
  refine Ql E Y (fun e3 => ?_) (fun e3 => ?_)
  ·refine Qs (Qb E Y Tryz.isAgg62 S.imm (Qf hbx3) ?_)
   clear E a; intro a E
   refine ZH ?_
   replace S := S.front2.front5.front3.front3.front4.front4
   replace E := E.keep (l' := [(1, .pointer (some ⟨bx1, 0, none⟩)), (2, .pointer (some ⟨bx2, 0, none⟩)), (4, .pointer (some ⟨b0, 0, none⟩)), (5, .pointer (some ⟨a1, 0, none⟩)), (6, .pointer (some ⟨a2, 0, none⟩)), (61, v0)]) ⟨Y, Y, Y, Y, Y, Y, trivial⟩
   replace S := S.front4.front4
   replace S := S.blk_int (j := (((JU n1 n2 (([] : List Int))).cnt : Nat) : Int)) (by (rfl))
   replace S := S.front4.front4
   replace S := S.re1 (l' := (JU n1 n2 (([] : List Int))).buf) (by rfl)
   replace S := S.front4
   have S0 := S; clear S; have S := St.pack [Jk a1 (.cells #[b1] 22), Jg 3 b1 ((JU n1 n2 (([] : List Int))).buf), Jk a3 (.cells #[.int .i64 (((n2 : Nat) : Int) - ((n1 : Nat) : Int))] 3), Jk a2 (.cells #[.int .i64 (((JU n1 n2 (([] : List Int))).cnt : Nat) : Int)] 3), c] S0; clear S0
   refine JK (RV := QB) (l := l0) (fun pre M c => ∃ (u5 : Value) (c1 : Qr), c = Yf [Jk a1 (.cells #[u5] 22), Jg 3 u5 ((JU n1 n2 (pre)).buf), Jk a3 (.cells #[.int .i64 (((n2 : Nat) : Int) - ((n1 : Nat) : Int))] 3), Jk a2 (.cells #[.int .i64 (((JU n1 n2 (pre)).cnt : Nat) : Int)] 3), c1] ∧ (J ((JU n1 n2 (pre)).out) M c1)) (fun cd pre M c => cd = .ret ∧ ∃ z, z <+: (Vb n1 n2 l0) ∧ X z M c) E S Y h0 lerf (fun _ _ _ h => by rw [h]; rfl) (by decide) (by rintro _ M M' c hM ⟨u5, c1, rfl, f0⟩; exact ⟨_, _, rfl, hJM _ _ _ _ hM f0⟩) ⟨_, _, rfl, Ju hJ (by rfl)⟩ ?_ ?_ ?_
   clear E S
   ·rintro lb_31 rec_32 pre xa _ a w d3 _ G b5 e4 rfl ⟨u5, c1, rfl, f0⟩ E S
    replace E : Env a 86 [] [(62, .int .i64 xa), (1, .pointer (some ⟨bx1, 0, none⟩)), (2, .pointer (some ⟨bx2, 0, none⟩)), (4, .pointer (some ⟨b0, 0, none⟩)), (5, .pointer (some ⟨a1, 0, none⟩)), (6, .pointer (some ⟨a2, 0, none⟩)), (61, v0)] := E
    replace S := S.swap.unpack
    have hq1 := Js e4
    replace h0 := h0.le b5
    replace hbx1 := b5.2 _ _ hbx1
    replace hbx2 := b5.2 _ _ hbx2
    replace hbx3 := b5.2 _ _ hbx3
    replace a0 := b5.2 _ _ a0
    have hsl := yq hn hs pre
    refine Qh (QH E Y (Tryz.isAgg22 _) (Qo (S.mem (.head _))) fun _ B => QH B Y (Tryz.isAgg3 _) (Qo (S.mem (.tail _ (.tail _ (.tail _ (.head _)))))) ?_)
    clear E a B; intro a E
    replace S := S.front1
    obtain ⟨g5, d4⟩ := S.ptrC (k := (JU n1 n2 (pre)).cnt) (by (omega))
    refine QZ E Y Y QE d4 Y ?_
    clear E a; intro a E
    refine Jm (YH E S Y Y (Tryz.sizeOf3 _) d4 ?_)
    clear E a S; rintro a w E S
    refine Qz ?_
    replace S := S.front5
    refine rb S ?_
    clear S; intro w S
    refine QW (Qs (QH E Y (Tryz.isAgg3 _) (Qo (S.mem (.tail _ (.tail _ (.tail _ (.tail _ (.head _))))))) fun _ B => Qp (m := (((JU n1 n2 (pre)).cnt + 1 : Nat) : Int)) B Y Y ?_))
    clear E a B; intro a E
    replace S := S.front4
    refine Jm (QS E S Y Y (Tryz.sizeOf3 _) Y ?_)
    clear E a S; rintro a w E S
    refine QI (QH E Y (Tryz.isAgg3 _) (Qo (S.mem (.head _))) fun _ B => Qb B Y Tryz.isAgg3 S.imm (Qf hbx1) fun _ D => QK D Y Y ?_)
    clear E a B D; intro a E
    refine Qz ?_
    refine Ql E Y (fun e5 => ?_) (fun e5 => ?_)
    ·refine Je (Je ?_)
     have hbx1k36 := hbx1
     have hbx2k36 := hbx2
     have hb_1k36 := a0
     replace S := S.mono_heap (w' := World.drew _) rfl
     refine Jb (C := fun x w => agree d3 w ∧ (x = 3 → w.heap[a1]? = some (.cells #[u5] 22))) (bf := (fun i => bif Nat.beq i 2 then [] else bif Nat.beq i 4 then [3] else bif Nat.beq i 5 then [3] else [])) [0, 1, 3, 6] [0, 1, 3, 2, 4, 5, 6] Tryz.mixed (by kernel_rfl) (fun x hq => ⟨S.imm, fun _ => (S.mem (.tail _ (.tail _ (.tail _ (.head _)))))⟩) ?_
     refine QU E Y (fun w hC => (QQ E Y Tryz.isAgg153 hC.1 (Qf hb_1k36))) fun _ B => QU B Y (fun w hC => (QQ B Y Tryz.isAgg3 hC.1 (Qf hbx1k36))) fun _ D => QU D Y (fun w hC => (ZF D Y (Tryz.isAgg22 _) (Qo (hC.2 Y)))) ?_
     clear E a B D; intro a E
     refine ZP Y Y Y (JD (k := n1) E S Y Y Y QE Y (by omega) (by omega) (by omega) ?_)
     clear E a S; rintro a w g6 E S
     replace S := S.made0
     refine ⟨fun x hq hb => ⟨(Qu lerf S.imm), (fun _ => (S.mem (.tail _ (.tail _ (.tail _ (.tail _ (.head _)))))))⟩, ?_⟩
     replace S := S.front3
     refine ZP Y Y Y (zZ (xs := ([] : List Int)) (ys := ((JU n1 n2 (pre)).buf).set ((JU n1 n2 (pre)).cnt) xa) E S Y Y Y QE (by ((simp; omega))) ?_)
     clear E a S; rintro a w g7 E S
     refine ⟨fun x hq hb => ⟨(Qu lerf S.imm), (fun e => by subst e; exact absurd hb (by decide))⟩, ?_⟩
     have S0 := S; clear S
     obtain ⟨g8, a6, e6, S⟩ := S0.freezeI (by ((simp; omega)))
     clear S0
     replace h0 := h0.le a6
     replace hbx1 := a6.2 _ _ hbx1
     replace hbx2 := a6.2 _ _ hbx2
     replace hbx3 := a6.2 _ _ hbx3
     replace a0 := a6.2 _ _ a0
     replace f0 := hJM _ _ _ _ a6 f0
     replace S := S.front5
     refine ZP Y Y Y (JC (x := [] ++ (((JU n1 n2 (pre)).buf).set ((JU n1 n2 (pre)).cnt) xa)) E S Y Y Y hY (a4.trans (b5.trans a6)) (by exact Up hn hs (by assumption) (hsl.2.2.1 (by omega)) (by omega)) ⟨_, Y, e6⟩ f0 ?_)
     clear E a S; rintro a w b6 c6 go_43 a8 f0 S E
     replace h0 := h0.le a8
     replace hbx1 := a8.2 _ _ hbx1
     replace hbx2 := a8.2 _ _ hbx2
     replace hbx3 := a8.2 _ _ hbx3
     replace a0 := a8.2 _ _ a0
     refine ⟨fun x hq hb => ⟨(Qu (a6.trans a8) S.imm), (fun e => by subst e; exact absurd hb (by decide))⟩, ?_⟩
     cases go_43
     ·replace f0 : X ((JU n1 n2 (pre)).out ++ [[] ++ (((JU n1 n2 (pre)).buf).set ((JU n1 n2 (pre)).cnt) xa)]) b6 c6 := f0
      refine QU E Y (fun w hC => (YN E Y)) ?_
      clear E a; intro a E
      refine JI (JH ?_)
      refine JZ ?_
      refine QY E Y Y ?_
      refine QM (UA (ZC ?_))
      replace S := S.front1.drop.front1.drop.front2.drop.front2.drop.front1
      exact ⟨b6, _, (a6.trans a8), ⟨Y, _, (by (first | exact Up hn hs (by assumption) (hsl.2.2.1 (by omega)) (by omega) | exact Up hn hs (by assumption) (by omega) (by omega))), f0⟩, S⟩
     ·replace f0 : J ((JU n1 n2 (pre)).out ++ [[] ++ (((JU n1 n2 (pre)).buf).set ((JU n1 n2 (pre)).cnt) xa)]) b6 c6 := f0
      refine QU E Y (fun w hC => (YN E Y)) ?_
      clear E a; intro a E
      refine JI (JH ?_)
      refine JZ ?_
      refine QF E Y Y ?_
      refine VC (QH E Y (Tryz.isAgg3 _) (Qo (S.mem (.tail _ (.tail _ (.head _))))) fun _ B => Qb B Y Tryz.isAgg3 S.imm (Qf hbx2) fun _ D => JT (m := (((JU n1 n2 (pre)).cnt + 1 - n2 : Nat) : Int)) D Y Y ?_)
      clear E a B D; intro a E
      replace S := S.front2
      refine Jm (QS E S Y Y (Tryz.sizeOf3 _) Y ?_)
      clear E a S; rintro a w E S
      refine Qz ?_
      have hbx1k43 := hbx1
      have hbx2k43 := hbx2
      have hb_1k43 := a0
      replace S := S.mono_heap (w' := World.drew _) rfl
      refine Jb (C := fun x w => agree b6 w ∧ (x = 0 → w.heap[a1]? = some (.cells #[u5] 22)) ∧ (x = 1 → w.heap[a1]? = some (.cells #[u5] 22))) (bf := (fun i => bif Nat.beq i 4 then [0, 1] else [])) [0, 1, 2, 3] [0, 1, 2, 3, 4] Tryz.mixed (by kernel_rfl) (fun x hq => ⟨S.imm, fun _ => (S.mem (.tail _ (.tail _ (.tail _ (.tail _ (.head _)))))), fun _ => (S.mem (.tail _ (.tail _ (.tail _ (.tail _ (.head _))))))⟩) ?_
      refine QU E Y (fun w hC => (ZF E Y (Tryz.isAgg22 _) (Qo (hC.2.1 Y)))) fun _ B => QU B Y (fun w hC => (ZF B Y (Tryz.isAgg22 _) (Qo (hC.2.2 Y)))) fun _ D => QU D Y (fun w hC => (QQ D Y Tryz.isAgg3 hC.1 (Qf hbx2k43))) ?_
      clear E a B D; intro a E
      replace S := S.front2
      obtain ⟨g9, d5⟩ := S.subO (lo := n2) (by ((simp; omega)))
      refine QU E Y (fun w hC => (Wh E Y Y QE S.lenC d5 (by omega))) ?_
      clear E a; intro a E
      refine ZP Y Y Y (X_copyO (xs := ((JU n1 n2 (pre)).buf).set ((JU n1 n2 (pre)).cnt) xa) (lo := n2) E S Y Y Y QE d5 ?_)
      clear E a S; rintro a w E S
      refine ⟨fun x hq hb => ⟨(Qu lerf S.imm), (fun e => by subst e; exact absurd hb (by decide)), (fun e => by subst e; exact absurd hb (by decide))⟩, ?_⟩
      refine JI (JH ?_)
      refine ZK ?_
      replace S := S.front2.front2.front5.front3.front5.front4.front4
      replace S := S.blk_int (j := (((JU n1 n2 ((pre ++ [xa]))).cnt : Nat) : Int)) (by ((rw [sl_le (by omega) (hsl.2.2.1 (by omega)) (by omega)]; simp; omega)))
      replace S := S.front4.front4
      replace S := S.re1 (l' := (JU n1 n2 ((pre ++ [xa]))).buf) (by (rw [sl_le (by omega) (hsl.2.2.1 (by omega)) (by omega)]; simp only [List.length_set, hsl.1]; done))
      replace S := S.front4
      have S0 := S; clear S; have S := (St.pack [Jk a1 (.cells #[u5] 22), Jg 3 u5 ((JU n1 n2 ((pre ++ [xa]))).buf), Jk a3 (.cells #[.int .i64 (((n2 : Nat) : Int) - ((n1 : Nat) : Int))] 3), Jk a2 (.cells #[.int .i64 (((JU n1 n2 ((pre ++ [xa]))).cnt : Nat) : Int)] 3), c6] S0).swap; clear S0
      exact ⟨b6, _, (a6.trans a8), ⟨_, _, Y, Ju f0 (by ((rw [sl_le (by omega) (hsl.2.2.1 (by omega)) (by omega)]; rfl)))⟩, S⟩
    ·refine Qx (ZK ?_)
     replace S := S.front5.front1.front5.front4.front5.front4.front4
     replace S := S.blk_int (j := (((JU n1 n2 ((pre ++ [xa]))).cnt : Nat) : Int)) (by ((rw [VT (hsl.2.2.1 (by omega)) (by omega)]; done)))
     replace S := S.front4.front4
     replace S := S.re1 (l' := (JU n1 n2 ((pre ++ [xa]))).buf) (by (rw [VT (hsl.2.2.1 (by omega)) (by omega)]; done))
     replace S := S.front4
     have S0 := S; clear S; have S := (St.pack [Jk a1 (.cells #[u5] 22), Jg 3 u5 ((JU n1 n2 ((pre ++ [xa]))).buf), Jk a3 (.cells #[.int .i64 (((n2 : Nat) : Int) - ((n1 : Nat) : Int))] 3), Jk a2 (.cells #[.int .i64 (((JU n1 n2 ((pre ++ [xa]))).cnt : Nat) : Int)] 3), c1] S0).swap; clear S0
     exact ⟨d3, _, lerf, ⟨_, _, Y, Ju f0 (by ((rw [VT (hsl.2.2.1 (by omega)) (by omega)]; done)))⟩, S⟩
   ·rintro a w e7 _ D_46 b7 ⟨u5, c1, rfl, f0⟩ S E
    replace S := S.unpack
    replace h0 := h0.le b7
    replace hbx1 := b7.2 _ _ hbx1
    replace hbx3 := b7.2 _ _ hbx3
    replace a0 := b7.2 _ _ a0
    refine ZK (ZK (Yh ?_))
    replace S := S.drop.drop.drop.drop.front1
    have hpre : (JU n1 n2 (l0)).out = Vb n1 n2 l0 := by (exact sl_out hn hs _)
    rw [hpre] at f0
    exact QR E S Tryz.results332 (fun w S => ⟨_, Y, e7, _, (a4.trans b7), .inl f0, S⟩)
   ·rintro a w e8 c_ D_48 h1 _ b8 h2 ⟨rfl, z_, hz_, f0⟩ S E
    replace h0 := h0.le b8
    replace hbx1 := b8.2 _ _ hbx1
    replace hbx3 := b8.2 _ _ hbx3
    replace a0 := b8.2 _ _ a0
    refine QM (ZC (ZC ?_))
    replace S := S.front1
    exact QR E S Tryz.results332 (fun w S => ⟨_, Y, e8, _, (a4.trans b8), .inr ⟨z_, (by assumption), f0⟩, S⟩)
  ·refine Qs ?_
   refine Qk (Ja (cs := #[.int .i64 0]) E S Y Tryz.zeroValue3 Y ?_)
   clear E a S; rintro a w a9 E S
   refine Jm (QS E S Y Y (Tryz.sizeOf3 _) Y ?_)
   clear E a S; rintro a w E S
   refine QI (Qb E Y Tryz.isAgg62 S.imm (Qf hbx3) ?_)
   clear E a; intro a E
   refine ZH ?_
   replace S := S.front3.front6.front4.front4.front4.front5.front5
   replace E := E.keep (l' := [(1, .pointer (some ⟨bx1, 0, none⟩)), (4, .pointer (some ⟨b0, 0, none⟩)), (5, .pointer (some ⟨a1, 0, none⟩)), (6, .pointer (some ⟨a2, 0, none⟩)), (7, .pointer (some ⟨a3, 0, none⟩)), (8, .pointer (some ⟨a9, 0, none⟩)), (15, v0)]) ⟨Y, Y, Y, Y, Y, Y, Y, trivial⟩
   replace S := S.front5.front5
   replace S := S.blk_int (j := (((JU n1 n2 (([] : List Int))).cnt : Nat) : Int)) (by (rfl))
   replace S := S.front5.front5
   replace S := S.blk_int (j := (((JU n1 n2 (([] : List Int))).skip : Nat) : Int)) (by (rfl))
   replace S := S.front5
   replace S := S.re1 (l' := (JU n1 n2 (([] : List Int))).buf) (by rfl)
   replace S := S.front5
   have S0 := S; clear S; have S := St.pack [Jk a1 (.cells #[b1] 22), Jg 3 b1 ((JU n1 n2 (([] : List Int))).buf), Jk a9 (.cells #[.int .i64 (((JU n1 n2 (([] : List Int))).skip : Nat) : Int)] 3), Jk a3 (.cells #[.int .i64 (((n2 : Nat) : Int) - ((n1 : Nat) : Int))] 3), Jk a2 (.cells #[.int .i64 (((JU n1 n2 (([] : List Int))).cnt : Nat) : Int)] 3), c] S0; clear S0
   refine JK (RV := QB) (l := l0) (fun pre M c => ∃ (u5 : Value) (c2 : Qr), c = Yf [Jk a1 (.cells #[u5] 22), Jg 3 u5 ((JU n1 n2 (pre)).buf), Jk a9 (.cells #[.int .i64 (((JU n1 n2 (pre)).skip : Nat) : Int)] 3), Jk a3 (.cells #[.int .i64 (((n2 : Nat) : Int) - ((n1 : Nat) : Int))] 3), Jk a2 (.cells #[.int .i64 (((JU n1 n2 (pre)).cnt : Nat) : Int)] 3), c2] ∧ (J ((JU n1 n2 (pre)).out) M c2)) (fun cd pre M c => cd = .ret ∧ ∃ z, z <+: (Vb n1 n2 l0) ∧ X z M c) E S Y h0 lerf (fun _ _ _ h => by rw [h]; rfl) (by decide) (by rintro _ M M' c hM ⟨u5, c2, rfl, f0⟩; exact ⟨_, _, rfl, hJM _ _ _ _ hM f0⟩) ⟨_, _, rfl, Ju hJ (by rfl)⟩ ?_ ?_ ?_
   clear E S
   ·rintro lb_53 rec_54 pre xa _ a w c7 _ G c8 e9 rfl ⟨u5, c2, rfl, f0⟩ E S
    replace E : Env a 86 [] [(16, .int .i64 xa), (1, .pointer (some ⟨bx1, 0, none⟩)), (4, .pointer (some ⟨b0, 0, none⟩)), (5, .pointer (some ⟨a1, 0, none⟩)), (6, .pointer (some ⟨a2, 0, none⟩)), (7, .pointer (some ⟨a3, 0, none⟩)), (8, .pointer (some ⟨a9, 0, none⟩)), (15, v0)] := E
    replace S := S.swap.unpack
    have hq2 := Js e9
    replace hbx1 := c8.2 _ _ hbx1
    replace a0 := c8.2 _ _ a0
    have hsl := yq hn hs pre
    refine Qh (Qj E Y ?_)
    clear E a; intro a E
    refine Qz ?_
    replace S := S.front6
    refine rb S ?_
    clear S; intro w S
    refine QW (UK (QH E Y (Tryz.isAgg3 _) (Qo (S.mem (.tail _ (.tail _ (.tail _ (.head _)))))) fun _ B => Ys B Y Y ?_))
    clear E a B; intro a E
    refine Qz ?_
    refine Ql E Y (fun f1 => ?_) (fun f1 => ?_)
    ·refine Qs (QH E Y (Tryz.isAgg3 _) (Qo (S.mem (.tail _ (.tail _ (.tail _ (.head _)))))) fun _ B => JT (m := (((JU n1 n2 (pre)).skip - 1 : Nat) : Int)) B Y Y ?_)
     clear E a B; intro a E
     replace S := S.front3
     refine Jm (QS E S Y Y (Tryz.sizeOf3 _) Y ?_)
     clear E a S; rintro a w E S
     refine Qz (JO (Ul (zx ?_)))
     replace S := S.front6.front6.front6.front3.front6.front6.front5.front5
     replace S := S.blk_int (j := (((JU n1 n2 ((pre ++ [xa]))).cnt : Nat) : Int)) (by ((rw [jW (by omega)]; done)))
     replace S := S.front5.front5
     replace S := S.blk_int (j := (((JU n1 n2 ((pre ++ [xa]))).skip : Nat) : Int)) (by ((rw [jW (by omega)]; done)))
     replace S := S.front5
     replace S := S.re1 (l' := (JU n1 n2 ((pre ++ [xa]))).buf) (by (rw [jW (by omega)]; done))
     replace S := S.front5
     have S0 := S; clear S; have S := (St.pack [Jk a1 (.cells #[u5] 22), Jg 3 u5 ((JU n1 n2 ((pre ++ [xa]))).buf), Jk a9 (.cells #[.int .i64 (((JU n1 n2 ((pre ++ [xa]))).skip : Nat) : Int)] 3), Jk a3 (.cells #[.int .i64 (((n2 : Nat) : Int) - ((n1 : Nat) : Int))] 3), Jk a2 (.cells #[.int .i64 (((JU n1 n2 ((pre ++ [xa]))).cnt : Nat) : Int)] 3), c2] S0).swap; clear S0
     exact ⟨c7, _, lerf, ⟨_, _, Y, Ju f0 (by ((rw [jW (by omega)]; done)))⟩, S⟩
    ·refine VC (QH E Y (Tryz.isAgg22 _) (Qo (S.mem (.tail _ (.head _)))) fun _ B => QH B Y (Tryz.isAgg3 _) (Qo (S.mem (.tail _ (.tail _ (.tail _ (.tail _ (.tail _ (.head _)))))))) fun _ D => Qn D Y ?_)
     clear E a B D; intro a E
     replace S := S.front2
     obtain ⟨h3, d6⟩ := S.ptrC (k := (JU n1 n2 (pre)).cnt) (by (omega))
     refine QZ E Y Y QE d6 Y ?_
     clear E a; intro a E
     refine Jm (YH E S Y Y (Tryz.sizeOf3 _) d6 ?_)
     clear E a S; rintro a w E S
     refine QI (QH E Y (Tryz.isAgg3 _) (Qo (S.mem (.tail _ (.tail _ (.tail _ (.tail _ (.tail _ (.head _)))))))) fun _ B => Qp (m := (((JU n1 n2 (pre)).cnt + 1 : Nat) : Int)) B Y Y ?_)
     clear E a B; intro a E
     replace S := S.front5
     refine Jm (QS E S Y Y (Tryz.sizeOf3 _) Y ?_)
     clear E a S; rintro a w E S
     refine QI (QH E Y (Tryz.isAgg3 _) (Qo (S.mem (.head _))) fun _ B => Qb B Y Tryz.isAgg3 S.imm (Qf hbx1) fun _ D => QK D Y Y ?_)
     clear E a B D; intro a E
     refine Qz ?_
     refine Ql E Y (fun f2 => ?_) (fun f2 => ?_)
     ·refine Je (Je ?_)
      have hbx1k59 := hbx1
      have hb_1k59 := a0
      replace S := S.mono_heap (w' := World.drew _) rfl
      refine Jb (C := fun x w => agree c7 w ∧ (x = 3 → w.heap[a1]? = some (.cells #[u5] 22))) (bf := (fun i => bif Nat.beq i 2 then [] else bif Nat.beq i 4 then [3] else bif Nat.beq i 5 then [3] else [])) [0, 1, 3, 6] [0, 1, 3, 2, 4, 5, 6] Tryz.mixed (by kernel_rfl) (fun x hq => ⟨S.imm, fun _ => (S.mem (.tail _ (.tail _ (.tail _ (.head _)))))⟩) ?_
      refine QU E Y (fun w hC => (QQ E Y Tryz.isAgg153 hC.1 (Qf hb_1k59))) fun _ B => QU B Y (fun w hC => (QQ B Y Tryz.isAgg3 hC.1 (Qf hbx1k59))) fun _ D => QU D Y (fun w hC => (ZF D Y (Tryz.isAgg22 _) (Qo (hC.2 Y)))) ?_
      clear E a B D; intro a E
      refine ZP Y Y Y (JD (k := n1) E S Y Y Y QE Y (by omega) (by omega) (by omega) ?_)
      clear E a S; rintro a w h4 E S
      replace S := S.made0
      refine ⟨fun x hq hb => ⟨(Qu lerf S.imm), (fun _ => (S.mem (.tail _ (.tail _ (.tail _ (.tail _ (.head _)))))))⟩, ?_⟩
      replace S := S.front2
      refine ZP Y Y Y (zZ (xs := ([] : List Int)) (ys := ((JU n1 n2 (pre)).buf).set ((JU n1 n2 (pre)).cnt) xa) E S Y Y Y QE (by ((simp; omega))) ?_)
      clear E a S; rintro a w h5 E S
      refine ⟨fun x hq hb => ⟨(Qu lerf S.imm), (fun e => by subst e; exact absurd hb (by decide))⟩, ?_⟩
      have S0 := S; clear S
      obtain ⟨h6, b9, f3, S⟩ := S0.freezeI (by ((simp; omega)))
      clear S0
      replace f0 := hJM _ _ _ _ b9 f0
      replace S := S.front6
      refine ZP Y Y Y (JC (x := [] ++ (((JU n1 n2 (pre)).buf).set ((JU n1 n2 (pre)).cnt) xa)) E S Y Y Y hY (a4.trans (c8.trans b9)) (by exact Up hn hs (by assumption) (by omega) (by omega)) ⟨_, Y, f3⟩ f0 ?_)
      clear E a S; rintro a w c4 c9 go_66 d0 f0 S E
      refine ⟨fun x hq hb => ⟨(Qu (b9.trans d0) S.imm), (fun e => by subst e; exact absurd hb (by decide))⟩, ?_⟩
      cases go_66
      ·replace f0 : X ((JU n1 n2 (pre)).out ++ [[] ++ (((JU n1 n2 (pre)).buf).set ((JU n1 n2 (pre)).cnt) xa)]) c4 c9 := f0
       refine QU E Y (fun w hC => (YN E Y)) ?_
       clear E a; intro a E
       refine JI (JH ?_)
       refine JZ ?_
       refine QY E Y Y ?_
       refine QM (UA (ZC ?_))
       replace S := S.front1.drop.front1.drop.front2.drop.front2.drop.front2.drop.front1
       exact ⟨c4, _, (b9.trans d0), ⟨Y, _, (by (first | exact Up hn hs (by assumption) (hsl.2.2.1 (by omega)) (by omega) | exact Up hn hs (by assumption) (by omega) (by omega))), f0⟩, S⟩
      ·replace f0 : J ((JU n1 n2 (pre)).out ++ [[] ++ (((JU n1 n2 (pre)).buf).set ((JU n1 n2 (pre)).cnt) xa)]) c4 c9 := f0
       refine QU E Y (fun w hC => (YN E Y)) ?_
       clear E a; intro a E
       refine JI (JH ?_)
       refine JZ ?_
       refine QF E Y Y ?_
       refine VC ?_
       replace S := S.front2
       refine Jm (QS E S Y Y (Tryz.sizeOf3 _) Y ?_)
       clear E a S; rintro a w E S
       refine zw (QH E Y (Tryz.isAgg3 _) (Qo (S.mem (.tail _ (.tail _ (.tail _ (.tail _ (.tail _ (.tail _ (.head _))))))))) ?_)
       clear E a; intro a E
       replace S := S.front5
       refine Jm (QS E S Y Y (Tryz.sizeOf3 _) Y ?_)
       clear E a S; rintro a w E S
       refine Jz (ZK ?_)
       replace S := S.front2.front2.front6.front3.front4.front6.front5.front5
       replace S := S.blk_int (j := (((JU n1 n2 ((pre ++ [xa]))).cnt : Nat) : Int)) (by ((rw [sl_gt (by omega) (by omega) (by omega)]; rfl)))
       replace S := S.front5.front5
       replace S := S.blk_int (j := (((JU n1 n2 ((pre ++ [xa]))).skip : Nat) : Int)) (by ((rw [sl_gt (by omega) (by omega) (by omega)]; simp; omega)))
       replace S := S.front5
       replace S := S.re1 (l' := (JU n1 n2 ((pre ++ [xa]))).buf) (by (rw [sl_gt (by omega) (by omega) (by omega)]; done))
       replace S := S.front5
       have S0 := S; clear S; have S := (St.pack [Jk a1 (.cells #[u5] 22), Jg 3 u5 ((JU n1 n2 ((pre ++ [xa]))).buf), Jk a9 (.cells #[.int .i64 (((JU n1 n2 ((pre ++ [xa]))).skip : Nat) : Int)] 3), Jk a3 (.cells #[.int .i64 (((n2 : Nat) : Int) - ((n1 : Nat) : Int))] 3), Jk a2 (.cells #[.int .i64 (((JU n1 n2 ((pre ++ [xa]))).cnt : Nat) : Int)] 3), c9] S0).swap; clear S0
       exact ⟨c4, _, (b9.trans d0), ⟨_, _, Y, Ju f0 (by ((rw [sl_gt (by omega) (by omega) (by omega)]; rfl)))⟩, S⟩
     ·refine Qx (ZK ?_)
      replace S := S.front6.front1.front6.front6.front4.front6.front5.front5
      replace S := S.blk_int (j := (((JU n1 n2 ((pre ++ [xa]))).cnt : Nat) : Int)) (by ((rw [VT (by omega) (by omega)]; done)))
      replace S := S.front5.front5
      replace S := S.blk_int (j := (((JU n1 n2 ((pre ++ [xa]))).skip : Nat) : Int)) (by ((rw [VT (by omega) (by omega)]; simp; omega)))
      replace S := S.front5
      replace S := S.re1 (l' := (JU n1 n2 ((pre ++ [xa]))).buf) (by (rw [VT (by omega) (by omega)]; done))
      replace S := S.front5
      have S0 := S; clear S; have S := (St.pack [Jk a1 (.cells #[u5] 22), Jg 3 u5 ((JU n1 n2 ((pre ++ [xa]))).buf), Jk a9 (.cells #[.int .i64 (((JU n1 n2 ((pre ++ [xa]))).skip : Nat) : Int)] 3), Jk a3 (.cells #[.int .i64 (((n2 : Nat) : Int) - ((n1 : Nat) : Int))] 3), Jk a2 (.cells #[.int .i64 (((JU n1 n2 ((pre ++ [xa]))).cnt : Nat) : Int)] 3), c2] S0).swap; clear S0
      exact ⟨c7, _, lerf, ⟨_, _, Y, Ju f0 (by ((rw [VT (by omega) (by omega)]; done)))⟩, S⟩
   ·rintro a w f4 _ D_68 f5 ⟨u5, c2, rfl, f0⟩ S E
    replace S := S.unpack
    refine ZK (ZK (Yh ?_))
    replace S := S.drop.drop.drop.drop.drop.front1
    have hpre : (JU n1 n2 (l0)).out = Vb n1 n2 l0 := by (exact sl_out hn hs _)
    rw [hpre] at f0
    exact QR E S Tryz.results332 (fun w S => ⟨_, Y, f4, _, (a4.trans f5), .inl f0, S⟩)
   ·rintro a w f6 c_ D_70 h7 _ f7 h8 ⟨rfl, z_, hz_, f0⟩ S E
    refine QM (ZC (ZC ?_))
    replace S := S.front1
    exact QR E S Tryz.results332 (fun w S => ⟨_, Y, f6, _, (a4.trans f7), .inr ⟨z_, (by assumption), f0⟩, S⟩)
theorem yP {M : Hp} {v0 : Value} {l0 : List Int} (h0 : Jh Tryz.prog v0 M (QB) l0) {n1 n2 : Nat} (hn : 0 < n1) (hs : 0 < n2) (hb1 : n1 ≤ 1000000) (hb2 : n2 ≤ 1000000) :
  Pu Tryz.prog (.func (.func 309) #[] #[]) M [v0, .int .i64 ((n1 : Nat) : Int), .int .i64 ((n2 : Nat) : Int)] (fun r M' => Jh Tryz.prog r M' (Vf 1 QB) (Vb n1 n2 l0)) := by
 refine Qd Tryz.func309 Y Tryz.ntmps309 Y Tryz.call309 ?_
 intro a w M1 H hM1 S E
 replace h0 := h0.le hM1
 refine Qs ?_
 refine Qk (QA (cs := #[v0]) E S Y Y (cells_one h0.1) ?_)
 clear E a S; rintro a w a9 E S
 obtain ⟨b0, a4, a0, S⟩ := S.freezeB
 replace h0 := h0.le a4
 refine Qk (QA (cs := #[.int .i64 ((n1 : Nat) : Int)]) E S Y Y Y ?_)
 clear E a S; rintro a w b1 E S
 obtain ⟨b2, a3, a1, S⟩ := S.freezeB
 replace h0 := h0.le a3
 replace a0 := a3.2 _ _ a0
 refine Qk (QA (cs := #[.int .i64 ((n2 : Nat) : Int)]) E S Y Y Y ?_)
 clear E a S; rintro a w b3 E S
 obtain ⟨a6, a2, a5, S⟩ := S.freezeB
 replace h0 := h0.le a2
 replace a0 := a2.2 _ _ a0
 replace a1 := a2.2 _ _ a1
 refine Qj E Y fun _ B => Zp (Qb B Y Tryz.isAgg3 S.imm (Qf a1) fun _ C => Vy C Y Y ?_)
 clear E a B C; intro a E
 refine Qz ?_
 have a7 : (decide (((n1 : Nat) : Int) ≤ 0)) = false := by (apply decide_eq_false; omega)
 refine QF E Y a7 ?_
 refine je (Qb E Y Tryz.isAgg3 S.imm (Qf a5) fun _ B => Vy B Y Y ?_)
 clear E a B; intro a E
 refine Qz ?_
 have a8 : (decide (((n2 : Nat) : Int) ≤ 0)) = false := by (apply decide_eq_false; omega)
 refine QF E Y a8 ?_
 refine VC (Qv E Y Y fun _ B => Qj B Y ?_)
 clear E a B; intro a E
 refine Jj ?_
 exact Qa E Tryz.results309 Y ⟨_, Y, a6, (a4.trans (a3.trans a2)), (Jy (it_Sliding1 (n1 := n1) (n2 := n2) h0 (by omega) (by omega) (by omega) (by omega) a1 a5 a0) (by (rfl))), S⟩
theorem it_Window {M : Hp} {v0 : Value} {l0 : List Int} (h0 : Jh Tryz.prog v0 M (QB) l0) {n1 : Nat} (hn : 0 < n1) (hb1 : n1 ≤ 1000000) :
  Pu Tryz.prog (.func (.func 307) #[] #[]) M [v0, .int .i64 ((n1 : Nat) : Int)] (fun r M' => Jh Tryz.prog r M' (Vf 1 QB) (Vb n1 1 l0)) := by
 refine Qd Tryz.func307 Y Tryz.ntmps307 Y Tryz.call307 ?_
 intro a w M1 H hM1 S E
 replace h0 := h0.le hM1
 refine Qs (Qj E Y fun _ B => Zp (Qn B Y fun _ C => Vy C Y Y ?_))
 clear E a B C; intro a E
 refine Qz ?_
 have a0 : (decide (((n1 : Nat) : Int) ≤ 0)) = false := by (apply decide_eq_false; omega)
 refine QF E Y a0 ?_
 refine VC (QD 2 E Y ?_)
 clear E a; intro a E
 refine Qk (Qm E S Y Y Y (yP h0 (by omega) (by (simp; done)) (by omega) (by (simp; done))) lerf ?_)
 clear E a S; rintro a a4 w a1 a2 a3 S E
 refine Qj E Y ?_
 clear E a; intro a E
 refine Jj ?_
 exact Qa E Tryz.results307 Y ⟨_, Y, a1, a2, a3, S⟩
theorem jw {M : Hp} {v0 : Value} {l0 : List Int} {n1 : Nat} (hn : 0 < n1) (hb1 : n1 ≤ 1000000) (hb : l0.length ≤ 1000000) {bx0 bx1 : Nat} (hbx0 : M bx0 = some (.cells #[v0] 22)) (h0 : Qy M v0 l0) (hbx1 : M bx1 = some (.cells #[.int .i64 (n1 : Int)] 3)) :
  Pu Tryz.prog (.func (.func 306) #[] #[.pointer (some ⟨bx0, 0, none⟩), .pointer (some ⟨bx1, 0, none⟩)]) M [] (fun r M' => Zf M' r (Vb n1 1 l0)) := by
 refine Qd Tryz.func306 Y Tryz.ntmps306 Y Tryz.call306 ?_
 intro a w M1 H hM1 S E
 replace hbx0 := hM1.2 _ _ hbx0
 replace hbx1 := hM1.2 _ _ hbx1
 replace h0 := h0.le hM1
 have b0 := h0.bound
 have hsl := qD (n := n1) (s := 1) (l := l0) (by omega) hn
 refine Qs (Qj E Y ?_)
 clear E a; intro a E
 refine ZJ ?_
 have hbx0k0 := hbx0
 have hbx1k0 := hbx1
 replace S := S.mono_heap (w' := World.drew _) rfl
 refine Jb (C := fun x w => agree M1 w) (bf := (fun i => [])) [0, 2, 5] [0, 2, 1, 3, 4, 5] Tryz.mixed (by kernel_rfl) (fun x hq => S.imm) ?_
 refine QU E Y (fun w hC => (QQ E Y Tryz.isAgg22 hC (Qf hbx0k0))) fun _ B => QU B Y (fun w hC => (QQ B Y Tryz.isAgg3 hC (Qf hbx1k0))) ?_
 clear E a B; intro a E
 refine ZP Y Y Y (Qm E S Y Y Y (QG h0) lerf ?_)
 clear E a S; rintro a a7 w a8 a0 a3 S E
 refine ⟨fun x hq hb => (Qu a0 S.imm), ?_⟩
 refine ZP Y Y Y (Qm E S Y Y Y (it_Window a3 (by omega) (by omega)) lerf ?_)
 clear E a S; rintro a a9 w b1 a1 a4 S E
 refine ⟨fun x hq hb => (Qu (a0.trans a1) S.imm), ?_⟩
 refine ZP Y Y Y (Qm E S Y Y Y (Uk a4 (by (first | omega | (simp; omega) | (simp; done) | (simp_all; omega) | grind))) lerf ?_)
 clear E a S; rintro a b2 w a5 a2 a6 S E
 refine ⟨fun x hq hb => (Qu (a0.trans (a1.trans a2)) S.imm), ?_⟩
 refine QU E Y (fun w hC => (Jx E Y)) ?_
 clear E a; intro a E
 refine JI (JH ?_)
 refine JZ (QM ?_)
 exact Qa E Tryz.results306 Y ⟨_, Y, a5, (a0.trans (a1.trans a2)), a6, S⟩
theorem yX {M : Hp} {v0 : Value} {l0 : List Int} (h0 : Qy M v0 l0){n1 : Nat} (hn : 0 < n1) (hb1 : n1 ≤ 1000000) (hb : l0.length ≤ 1000000) :
  Pu Tryz.prog (.func (.func 223) #[] #[]) M [v0, .int .i64 ((n1 : Nat) : Int)] (fun r M' => ∃ t0, r = .tuple #[t0, .bool true] ∧ Zf M' t0 (Vb n1 1 l0)) := by
 refine Qd Tryz.func223 Y Tryz.ntmps223 Y Tryz.call223 ?_
 intro a w M1 H hM1 S E
 replace h0 := h0.le hM1
 have b0 := h0.bound
 refine Qs ?_
 refine Qk (QA (cs := #[v0]) E S Y Y (cells_one (QX.one' h0)) ?_)
 clear E a S; rintro a w a7 E S
 obtain ⟨a8, a2, a0, S⟩ := S.freezeB
 replace h0 := h0.le a2
 refine Qk (QA (cs := #[.int .i64 ((n1 : Nat) : Int)]) E S Y Y Y ?_)
 clear E a S; rintro a w a9 E S
 obtain ⟨b1, a1, a3, S⟩ := S.freezeB
 replace h0 := h0.le a1
 replace a0 := a1.2 _ _ a0
 refine QD 2 E Y fun _ B => QI (Qv B Y Y ?_)
 clear E a B; intro a E
 refine Qk (Qm E S Y Y Y (Vl ⟨Y, jw  (by omega) (by omega) (by omega) a0 h0 a3⟩) lerf ?_)
 clear E a S; rintro a _ w a4 a5 ⟨b2, rfl, a6⟩ S E
 refine Qg E Y Y fun _ B => Qg B Y Y fun _ C => QD 2 C Y ?_
 clear E a B C; intro a E
 refine Jj ?_
 exact Zr E Tryz.results223 Y Y ⟨_, Y, a4, (a2.trans (a1.trans a5)), ⟨_, (by rfl), (QX.eqL a6 (by (rfl)))⟩, S⟩
theorem zO {M : Hp} {v0 : Value} {l0 : List Int} {n1 n2 : Nat} (hn : 0 < n1) (hs : 0 < n2) (hb1 : n1 ≤ 1000000) (hb2 : n2 ≤ 1000000) (hb : l0.length ≤ 1000000) {bx0 bx1 bx2 : Nat} (hbx0 : M bx0 = some (.cells #[v0] 22)) (h0 : Qy M v0 l0) (hbx1 : M bx1 = some (.cells #[.int .i64 (n1 : Int)] 3)) (hbx2 : M bx2 = some (.cells #[.int .i64 (n2 : Int)] 3)) :
  Pu Tryz.prog (.func (.func 308) #[] #[.pointer (some ⟨bx0, 0, none⟩), .pointer (some ⟨bx1, 0, none⟩), .pointer (some ⟨bx2, 0, none⟩)]) M [] (fun r M' => Zf M' r (Vb n1 n2 l0)) := by
 refine Qd Tryz.func308 Y Tryz.ntmps308 Y Tryz.call308 ?_
 intro a w M1 H hM1 S E
 replace hbx0 := hM1.2 _ _ hbx0
 replace hbx1 := hM1.2 _ _ hbx1
 replace hbx2 := hM1.2 _ _ hbx2
 replace h0 := h0.le hM1
 have b0 := h0.bound
 have hsl := qD (n := n1) (s := n2) (l := l0) (by omega) hn
 refine Qs (Qj E Y ?_)
 clear E a; intro a E
 refine ZJ ?_
 have hbx0k0 := hbx0
 have hbx1k0 := hbx1
 have hbx2k0 := hbx2
 replace S := S.mono_heap (w' := World.drew _) rfl
 refine Jb (C := fun x w => agree M1 w) (bf := (fun i => [])) [0, 2, 3, 6] [0, 2, 3, 1, 4, 5, 6] Tryz.mixed (by kernel_rfl) (fun x hq => S.imm) ?_
 refine QU E Y (fun w hC => (QQ E Y Tryz.isAgg22 hC (Qf hbx0k0))) fun _ B => QU B Y (fun w hC => (QQ B Y Tryz.isAgg3 hC (Qf hbx1k0))) fun _ D => QU D Y (fun w hC => (QQ D Y Tryz.isAgg3 hC (Qf hbx2k0))) ?_
 clear E a B D; intro a E
 refine ZP Y Y Y (Qm E S Y Y Y (QG h0) lerf ?_)
 clear E a S; rintro a a7 w a8 a0 a3 S E
 refine ⟨fun x hq hb => (Qu a0 S.imm), ?_⟩
 refine ZP Y Y Y (Qm E S Y Y Y (yP a3 (by omega) (by omega) (by omega) (by omega)) lerf ?_)
 clear E a S; rintro a a9 w b1 a1 a4 S E
 refine ⟨fun x hq hb => (Qu (a0.trans a1) S.imm), ?_⟩
 refine ZP Y Y Y (Qm E S Y Y Y (Uk a4 (by (first | omega | (simp; omega) | (simp; done) | (simp_all; omega) | grind))) lerf ?_)
 clear E a S; rintro a b2 w a5 a2 a6 S E
 refine ⟨fun x hq hb => (Qu (a0.trans (a1.trans a2)) S.imm), ?_⟩
 refine QU E Y (fun w hC => (Jx E Y)) ?_
 clear E a; intro a E
 refine JI (JH ?_)
 refine JZ (QM ?_)
 exact Qa E Tryz.results308 Y ⟨_, Y, a5, (a0.trans (a1.trans a2)), a6, S⟩
theorem jC {M : Hp} {v0 : Value} {l0 : List Int} (h0 : Qy M v0 l0){n1 n2 : Nat} (hn : 0 < n1) (hs : 0 < n2) (hb1 : n1 ≤ 1000000) (hb2 : n2 ≤ 1000000) (hb : l0.length ≤ 1000000) :
  Pu Tryz.prog (.func (.func 224) #[] #[]) M [v0, .int .i64 ((n1 : Nat) : Int), .int .i64 ((n2 : Nat) : Int)] (fun r M' => ∃ t0, r = .tuple #[t0, .bool true] ∧ Zf M' t0 (Vb n1 n2 l0)) := by
 refine Qd Tryz.func224 Y Tryz.ntmps224 Y Tryz.call224 ?_
 intro a w M1 H hM1 S E
 replace h0 := h0.le hM1
 have b0 := h0.bound
 refine Qs ?_
 refine Qk (QA (cs := #[v0]) E S Y Y (cells_one (QX.one' h0)) ?_)
 clear E a S; rintro a w a9 E S
 obtain ⟨b1, a4, a0, S⟩ := S.freezeB
 replace h0 := h0.le a4
 refine Qk (QA (cs := #[.int .i64 ((n1 : Nat) : Int)]) E S Y Y Y ?_)
 clear E a S; rintro a w b2 E S
 obtain ⟨b3, a2, a3, S⟩ := S.freezeB
 replace h0 := h0.le a2
 replace a0 := a2.2 _ _ a0
 refine Qk (QA (cs := #[.int .i64 ((n2 : Nat) : Int)]) E S Y Y Y ?_)
 clear E a S; rintro a w b4 E S
 obtain ⟨b5, a1, a5, S⟩ := S.freezeB
 replace h0 := h0.le a1
 replace a0 := a1.2 _ _ a0
 replace a3 := a1.2 _ _ a3
 refine QD 2 E Y fun _ B => QI (Qv B Y Y ?_)
 clear E a B; intro a E
 refine Qk (Qm E S Y Y Y (Vl ⟨Y, zO  (by omega) (by omega) (by omega) (by omega) (by omega) a0 h0 a3 a5⟩) lerf ?_)
 clear E a S; rintro a _ w a6 a7 ⟨b6, rfl, a8⟩ S E
 refine Qg E Y Y fun _ B => Qg B Y Y fun _ C => QD 2 C Y ?_
 clear E a B C; intro a E
 refine Jj ?_
 exact Zr E Tryz.results224 Y Y ⟨_, Y, a6, (a4.trans (a2.trans (a1.trans a7))), ⟨_, (by rfl), (QX.eqL a8 (by (rfl)))⟩, S⟩
theorem it_Keyify {M : Hp} {v0 : Value} {l0 : List Int} (h0 : Jh Tryz.prog v0 M (QB) l0) :
  Pu Tryz.prog (.func (.func 310) #[] #[]) M [v0] (fun r M' => ye M' r (Sl.encS (Qw l0))) := by
 refine Qd Tryz.func310 Y Tryz.ntmps310 Y Tryz.call310 ?_
 intro a w M1 H hM1 S E
 replace h0 := h0.le hM1
 replace S : St w M1 (zt [] :: _) := S.empty
 replace E : Env a 12 (([] : List Nat).map mk) _ := E
 refine Qs (Qj E Y ?_)
 clear E a; intro a E
 refine QI ?_
 refine Qk (Uw E S Y ?_)
 clear E a S; rintro a w a0 E S
 replace S : St w M1 (Zg a0 ([] : List Int) :: _) := S
 refine Qk (Ja (cs := #[.map none]) E S Y Tryz.zeroValue116 Y ?_)
 clear E a S; rintro a w a1 E S
 refine Jm (QS E S Y Y (Tryz.sizeOf116 _) Y ?_)
 clear E a S; rintro a w E S
 refine Zp (Qn E Y ?_)
 clear E a; intro a E
 refine ZH ?_
 replace S := S.front1.front1
 replace E := E.keep (l' := [(3, .pointer (some ⟨a1, 0, none⟩)), (6, v0)]) ⟨Y, Y, trivial⟩
 replace S := S.front1
 replace S := S.reM (L' := (Sl.encS (Qw (([] : List Int))))) (congrArg Sl.encS (show ([] : List Int) = Qw (([] : List Int)) by first | (simp [Qw]; done) | exact (keyL_app1 _ _).symm))
 replace S := S.front1
 have S0 := S; clear S; have S := St.pack [Jk a1 (.cells #[.map (some a0)] 116), Zg a0 (Qw (([] : List Int)))] S0; clear S0
 refine JK (RV := QB) (l := l0) (fun pre M c => c = Yf [Jk a1 (.cells #[.map (some a0)] 116), Zg a0 (Qw (pre))]) (fun _ _ _ _ => False) E S Y h0 lerf (fun _ _ _ h => by rw [h]; rfl) (by decide) (by rintro _ M M' c hM rfl; exact rfl) rfl ?_ ?_ ?_
 clear E S
 ·rintro lb_4 rec_5 pre x _ a w a2 _ G a8 a3 rfl rfl E S
  replace E : Env a 12 [] [(7, .int .i64 x), (3, .pointer (some ⟨a1, 0, none⟩)), (6, v0)] := E
  replace S := S.swap.unpack2
  have hq0 := Js a3
  refine Qh (Qj E Y ?_)
  clear E a; intro a E
  refine Qz ?_
  replace S := S.front2
  refine rb S ?_
  clear S; intro w S
  refine QW (Qh (QH E Y (Tryz.isAgg116 _) (Qo (S.mem (.tail _ (.head _)))) fun _ B => Qn B Y fun _ C => UI (u := .agg #[]) (vs := []) C Y (fun w => WG  w) ?_))
  clear E a B C; intro a E
  replace S := S.front2
  refine Jm (VQ E S Yp Y Y Y ?_)
  clear E a S; rintro a w E S
  refine Jz (ZK ?_)
  replace S := S.front2.front1
  replace S := S.reM (L' := (Sl.encS (Qw ((pre ++ [x]))))) (congrArg Sl.encS (show Ym (Qw (pre)) x = Qw ((pre ++ [x])) by first | (simp [Qw]; done) | exact (keyL_app1 _ _).symm))
  replace S := S.front1
  have S0 := S; clear S; have S := (St.pack [Jk a1 (.cells #[.map (some a0)] 116), Zg a0 (Qw ((pre ++ [x])))] S0).swap; clear S0
  exact ⟨a2, _, lerf, Y, S⟩
 ·rintro a w a9 _ D_9 a4 rfl S E
  replace S := S.unpack2
  refine ZK (JZ (Qs (QH E Y (Tryz.isAgg116 _) (Qo (S.mem (.head _))) fun _ B => Qj B Y ?_)))
  clear E a B; intro a E
  refine Jj ?_
  replace S := S.front1
  have S0 := S; clear S
  obtain ⟨a5, a6, a7, S⟩ := S0.freezeM
  clear S0
  replace S := S.drop
  exact yh E S Tryz.results310 Y (fun w S => ⟨_, Y, a5, (a4.trans a6), (by rw [show (Qw l0) = (Qw (l0)) from by (rfl)]; exact a7), S⟩)
 ·rintro _ _ _ _ _ _ _ _ _ hX; exact hX.elim
theorem vd {M : Hp} {v0 : Value} {l0 : List Int} (h0 : Qy M v0 l0) (hb : l0.length ≤ 1000000000000) :
  Pu Tryz.prog (.func (.func 225) #[] #[]) M [v0] (fun r M' => Qy M' r (Wq (Qw l0))) := by
 refine Qd Tryz.func225 Y Tryz.ntmps225 Y Tryz.call225 ?_
 intro a w M1 H hM1 S E
 replace h0 := h0.le hM1
 have b0 := h0.bound
 have hkl := UX l0
 refine Qs (Qj E Y fun _ B => QI (Qn B Y ?_))
 clear E a B; intro a E
 refine Qk (Qm E S Y Y Y (QG h0) lerf ?_)
 clear E a S; rintro a a7 w a8 a0 a1 S E
 refine Qk (Qm E S Y Y Y (it_Keyify a1) lerf ?_)
 clear E a S; rintro a a9 w b1 a2 a3 S E
 refine Qk (Qm E S Y Y Y (impl_keys a3 (by (omega))) lerf ?_)
 clear E a S; rintro a b2 w a4 a5 a6 S E
 refine Qj E Y ?_
 clear E a; intro a E
 refine Jj ?_
 exact Qa E Tryz.results225 Y ⟨_, Y, a4, (a0.trans (a2.trans a5)), a6, S⟩
theorem it_Flatten1 {M : Hp} {v0 : Value} {l0 : List (List Int)} (h0 : QX 1 (RSq Tryz.prog QB) M v0 l0){bx1 : Nat} (hbx1 : M bx1 = some (.cells #[v0] 139)) :
  Jh Tryz.prog (.func (.func 333) #[] #[.pointer (some ⟨bx1, 0, none⟩)]) M (QB) ((l0).flatten) := by
 refine Jw Tryz.func333 Y Tryz.ntmps333 Y Tryz.call333 ?_
 intro y J X a w M1 c H hJM hM1 hY hJ S E
 replace hbx1 := hM1.2 _ _ hbx1
 replace h0 := h0.le JN hM1
 have b0 := h0.bound
 refine Qs ?_
 refine Qk (QA (cs := #[y]) E S Y Y (cells_one hY.1) ?_)
 clear E a S; rintro a w a5 E S
 obtain ⟨a7, a0, a2, S⟩ := S.freezeB
 replace hbx1 := a0.2 _ _ hbx1
 replace h0 := h0.le JN a0
 replace hJ := hJM _ _ _ _ a0 hJ
 refine QI (Qb E Y Tryz.isAgg139 S.imm (Qf hbx1) fun _ B => Qt B Y ja h0.len fun _ C => Qn C Y ?_)
 clear E a B C; intro a E
 refine ZH ?_
 refine QN (γ := Nat) (fun (k : Nat) a w => ∃ (a3 : Hp) (cL0 : Qr) (Ds0 : List Nat), Hp.le a7 a3 ∧ St w a3 (zt Ds0 :: cL0 :: H) ∧ Env a 19 (Ds0.map mk) [(2, .pointer (some ⟨a5, 0, none⟩)), (6, v0), (7, .int .i64 (((l0).length : Nat) : Int)), (8, .int .i64 ((k : Nat) : Int))] ∧ (k ≤ (l0).length) ∧ J ((l0.take k).flatten) a3 cL0) (fun k => ((l0).length) - k) 0 ⟨a7, _, _, lerf, S, E.keep ⟨Y, Y, Y, Y, trivial⟩, by (omega), Ju hJ (by (rfl))⟩ ?_
 try clear E
 try clear S
 try clear a
 try clear w
 rintro k a w ⟨a3, cL0, Ds0, a1, S, E, c4, hJ⟩
 replace h0 := h0.le JN a1
 replace a2 := a1.2 _ _ a2
 refine Qs (Jc E Y Y ?_)
 clear E a; intro a E
 refine ZJ ?_
 refine Ql E Y (fun b2 => ?_) (fun b2 => ?_)
 ·refine YZ ?_
  obtain ⟨b3, b4⟩ : ∃ x, (l0)[k]? = some x := ⟨_, List.getElem?_eq_getElem (by omega)⟩
  obtain ⟨c5, a8, b5, b6, b7⟩ := RdQ.at h0 b4
  refine QZ E Y Y ja b5 Y fun _ B => Qb B Y Tryz.isAgg62 S.imm b6 fun _ C => Qj C Y fun _ D => QI (Qn D Y ?_)
  clear E a B C D; intro a E
  refine ZH ?_
  replace S := S.front1
  replace E := E.keep (l' := [(2, .pointer (some ⟨a5, 0, none⟩)), (6, v0), (7, .int .i64 (((l0).length : Nat) : Int)), (8, .int .i64 ((k : Nat) : Int)), (12, a8)]) ⟨Y, Y, Y, Y, Y, trivial⟩
  have S0 := S; clear S; have S := St.pack [cL0] S0; clear S0
  refine JK (RV := QB) (l := b3) (fun pre M c => ∃ (c1 : Qr), c = Yf [c1] ∧ (J ((l0.take k).flatten ++ pre) M c1)) (fun cd pre M c => cd = .ret ∧ ∃ z, z <+: ((l0).flatten) ∧ X z M c) E S Y b7 lerf (fun _ _ _ h => by rw [h]; rfl) (by decide) (by rintro _ M M' c hM ⟨c1, rfl, f0⟩; exact ⟨_, rfl, hJM _ _ _ _ hM f0⟩) ⟨_, rfl, Ju hJ (by ((try clear S); (try clear E); (simp; done)))⟩ ?_ ?_ ?_
  clear E S
  ·rintro lb_9 rec_10 pre x _ a w c6 _ G a9 b8 rfl ⟨c1, rfl, f0⟩ E S
   replace E : Env a 19 [] [(13, .int .i64 x), (2, .pointer (some ⟨a5, 0, none⟩)), (6, v0), (7, .int .i64 (((l0).length : Nat) : Int)), (8, .int .i64 ((k : Nat) : Int)), (12, a8)] := E
   replace S := S.swap.unpack1
   have hq1 := Js b8
   replace a2 := a9.2 _ _ a2
   refine Qh (Qj E Y ?_)
   clear E a; intro a E
   refine Qz ?_
   replace S := S.front1
   refine rb S ?_
   clear S; intro w S
   refine QW (Qs (Qb E Y Tryz.isAgg95 S.imm (Qf a2) fun _ B => Qn B Y ?_))
   clear E a B; intro a E
   replace S := S.front1
   refine Qk (JC (x := x) E S Y Y Y hY (a0.trans (a1.trans a9)) (by exact UH (by assumption) (by assumption)) Y f0 ?_)
   clear E a S; rintro a w a4 a6 go_15 b1 f0 S E
   cases go_15
   ·replace f0 : X ((l0.take k).flatten ++ pre ++ [x]) a4 a6 := f0
    refine Ji E Y ?_
    clear E a; intro a E
    refine Qz ?_
    refine QY E Y Y ?_
    refine QM (ZC ?_)
    replace S := S.front1
    exact ⟨a4, _, b1, ⟨Y, _, (by (exact UH (by assumption) (by assumption))), f0⟩, S⟩
   ·replace f0 : J ((l0.take k).flatten ++ pre ++ [x]) a4 a6 := f0
    refine Ji E Y ?_
    clear E a; intro a E
    refine Qz ?_
    refine QF E Y Y ?_
    refine Qx (ZK ?_)
    have S0 := S; clear S; have S := (St.pack [a6] S0).swap; clear S0
    exact ⟨a4, _, b1, ⟨_, Y, Ju f0 (by (rw [List.append_assoc]))⟩, S⟩
  ·rintro a w b9 _ D_17 c0 ⟨c1, rfl, f0⟩ S E
   replace S := S.unpack1
   refine ZK (WN (Qp (m := ((k + 1 : Nat) : Int)) E Y Y fun _ B => Qn B Y ?_))
   clear E a B; intro a E
   refine Qz ?_
   replace S := S.front1
   exact ⟨k + 1, ⟨b9, _, _, (a1.trans c0), S, E.keep ⟨Y, Y, Y, Y, trivial⟩, by (omega), Ju f0 (by (rw [ZL (by assumption)]; done))⟩, by omega⟩
  ·rintro a w c2 c_ D_19 c7 _ c3 c8 ⟨rfl, z_, hz_, f0⟩ S E
   refine QM (ZC (ZC (J_u (ZC ?_))))
   replace S := S.front1
   exact QR E S Tryz.results333 (fun w S => ⟨_, Y, c2, _, (a0.trans (a1.trans c3)), .inr ⟨z_, (by assumption), f0⟩, S⟩)
 ·refine JO (Ul (Ul (zx (Yh ?_))))
  replace S := S.front1.front1
  have hpre : (l0.take k).flatten = (l0).flatten := by first | (rw [ZL (by assumption)]; done) | (rw [List.take_of_length_le (by omega)]; done) | (simp; done)
  rw [hpre] at hJ
  exact QR E S Tryz.results333 (fun w S => ⟨_, Y, a3, _, (a0.trans a1), .inl hJ, S⟩)
theorem it_Flatten {M : Hp} {v0 : Value} {l0 : List (List Int)} (h0 : QX 1 (RSq Tryz.prog QB) M v0 l0) :
  Pu Tryz.prog (.func (.func 311) #[] #[]) M [v0] (fun r M' => Jh Tryz.prog r M' QB ((l0).flatten)) := by
 refine Qd Tryz.func311 Y Tryz.ntmps311 Y Tryz.call311 ?_
 intro a w M1 H hM1 S E
 replace h0 := h0.le JN hM1
 have b0 := h0.bound
 refine Qs ?_
 refine Qk (QA (cs := #[v0]) E S Y Y (cells_one (QX.one' h0)) ?_)
 clear E a S; rintro a w a3 E S
 obtain ⟨a1, a0, a2, S⟩ := S.freezeB
 replace h0 := h0.le JN a0
 refine Qj E Y fun _ B => QI (Qv B Y Y fun _ C => Qj C Y ?_)
 clear E a B C; intro a E
 refine Jj ?_
 exact Qa E Tryz.results311 Y ⟨_, Y, a1, a0, (Jy (it_Flatten1 h0 a2) (by (rfl))), S⟩
theorem jH {M : Hp} {v0 : Value} {l0 : List (List Int)} (h0 : Zf M v0 l0) (hb : total l0 ≤ 1000000000) (hb2 : l0.length ≤ 1000000000) :
  Pu Tryz.prog (.func (.func 226) #[] #[]) M [v0] (fun r M' => Qy M' r ((l0).flatten)) := by
 refine Qd Tryz.func226 Y Tryz.ntmps226 Y Tryz.call226 ?_
 intro a w M1 H hM1 S E
 replace h0 := h0.le hM1
 have b0 := h0.bound
 have hfl := Yr l0
 refine Qs (Qj E Y fun _ B => QI (Qn B Y ?_))
 clear E a B; intro a E
 refine Qk (Qm E S Y Y Y (zL h0 (by omega)) lerf ?_)
 clear E a S; rintro a a7 w a8 a0 a1 S E
 refine Qk (Qm E S Y Y Y (it_Flatten a1) lerf ?_)
 clear E a S; rintro a a9 w b1 a2 a3 S E
 refine Qk (Qm E S Y Y Y (QJ a3 (by omega)) lerf ?_)
 clear E a S; rintro a b2 w a4 a5 a6 S E
 refine Qj E Y ?_
 clear E a; intro a E
 refine Jj ?_
 exact Qa E Tryz.results226 Y ⟨_, Y, a4, (a0.trans (a2.trans a5)), a6, S⟩
theorem it_Empty1 {M : Hp}  :
  Jh Tryz.prog (.func (.func 339) #[] #[]) M (QB) ([] : List Int) := by
 refine Jw Tryz.func339 Y Tryz.ntmps339 Y Tryz.call339 ?_
 intro y J X a w M1 c H hJM hM1 hY hJ S E
 refine J_x ?_
 replace S := S.front1.front1
 have hpre : [] = ([] : List Int) := by (rfl)
 rw [hpre] at hJ
 exact QR E S Tryz.results339 (fun w S => ⟨_, Y, M1, _, lerf, .inl hJ, S⟩)
theorem it_Empty {M : Hp}  :
  Pu Tryz.prog (.func (.func 334) #[] #[]) M [] (fun r M' => Jh Tryz.prog r M' QB ([] : List Int)) := by
 refine Qd Tryz.func334 Y Tryz.ntmps334 Y Tryz.call334 ?_
 intro a w M1 H hM1 S E
 refine Qs (Qj E Y fun _ B => QI (Qj B Y ?_))
 clear E a B; intro a E
 refine Jj ?_
 exact Qa E Tryz.results334 Y ⟨_, Y, M1, lerf, (Jy (it_Empty1 ) (by (rfl))), S⟩
theorem it_Intersect1 {M : Hp} {v0 : Value} {l0 : List (List Int)} (h0 : QX 1 (RSq Tryz.prog QB) M v0 l0) (hne : 0 < l0.length) {bx1 : Nat} (hbx1 : M bx1 = some (.cells #[v0] 139)) :
  Jh Tryz.prog (.func (.func 335) #[] #[.pointer (some ⟨bx1, 0, none⟩)]) M (QB) (Ub (fun x => x) l0) := by
 refine Jw Tryz.func335 Y Tryz.ntmps335 Y Tryz.call335 ?_
 intro y J X a w M1 c H hJM hM1 hY hJ S E
 replace hbx1 := hM1.2 _ _ hbx1
 replace h0 := h0.le JN hM1
 have b0 := h0.bound
 refine Qs ?_
 refine Qk (QA (cs := #[y]) E S Y Y (cells_one hY.1) ?_)
 clear E a S; rintro a w a4 E S
 obtain ⟨e3, a6, a2, S⟩ := S.freezeB
 replace hbx1 := a6.2 _ _ hbx1
 replace h0 := h0.le JN a6
 replace hJ := hJM _ _ _ _ a6 hJ
 refine QI (Qb E Y Tryz.isAgg139 S.imm (Qf hbx1) fun _ B => Qb B Y Tryz.isAgg139 S.imm (Qf hbx1) fun _ C => Qt C Y ja h0.len fun _ D => JT (m := (((l0).length - 1 : Nat) : Int)) D Y Y ?_)
 clear E a B C D; intro a E
 obtain ⟨d1, e4⟩ : ∃ x, (l0)[(l0).length - 1]? = some x := ⟨_, List.getElem?_eq_getElem (by omega)⟩
 obtain ⟨h8, d2, e5, e6, e7⟩ := RdQ.at h0 e4
 refine QZ E Y Y ja e5 Y fun _ B => Qb B Y Tryz.isAgg62 S.imm e6 fun _ C => Qj C Y ?_
 clear E a B C; intro a E
 refine QI ?_
 refine Qk (Uw E S Y ?_)
 clear E a S; rintro a w a0 E S
 replace S : St w e3 (Zd Value.bool a0 ([] : List (Int × Bool)) :: _) := S
 refine Qk (Ja (cs := #[.map none]) E S Y Tryz.zeroValue119 Y ?_)
 clear E a S; rintro a w a1 E S
 refine Jm (QS E S Y Y (Tryz.sizeOf119 _) Y ?_)
 clear E a S; rintro a w E S
 refine Zp (Qn E Y ?_)
 clear E a; intro a E
 refine ZH ?_
 replace S := S.front3.front2.front2
 replace E := E.keep (l' := [(1, .pointer (some ⟨bx1, 0, none⟩)), (2, .pointer (some ⟨a4, 0, none⟩)), (4, .pointer (some ⟨a1, 0, none⟩)), (22, d2)]) ⟨Y, Y, Y, Y, trivial⟩
 replace S := S.front2.front2
 replace S := S.reM (L' := (Jd Value.bool (QP (Qw ((([] : List Int)).map (fun x => x))) (fun _ => false)))) (congrArg (Jd Value.bool) (show ([] : List (Int × Bool)) = QP (Qw ((([] : List Int)).map (fun x => x))) (fun _ => false) by first | (simp [QP, Qw]; done) | exact ad_seq (fun x => x)))
 replace S := S.front2
 have S0 := S; clear S; have S := St.pack [Jk a1 (.cells #[.map (some a0)] 119), Zd Value.bool a0 (QP (Qw ((([] : List Int)).map (fun x => x))) (fun _ => false)), c] S0; clear S0
 refine JK (RV := QB) (l := d1) (fun pre M c => ∃ (c0 : Qr), c = Yf [Jk a1 (.cells #[.map (some a0)] 119), Zd Value.bool a0 (QP (Qw ((pre).map (fun x => x))) (fun _ => false)), c0] ∧ (J ([] : List Int) M c0)) (fun _ _ _ _ => False) E S Y e7 lerf (fun _ _ _ h => by rw [h]; rfl) (by decide) (by rintro _ M M' c hM ⟨c0, rfl, f0⟩; exact ⟨_, rfl, hJM _ _ _ _ hM f0⟩) ⟨_, rfl, Ju hJ (by (rfl))⟩ ?_ ?_ ?_
 clear E S
 ·rintro lb_9 rec_10 pre x _ a w e8 _ G c1 e9 rfl ⟨c0, rfl, f0⟩ E S
  replace E : Env a 81 [] [(23, .int .i64 x), (1, .pointer (some ⟨bx1, 0, none⟩)), (2, .pointer (some ⟨a4, 0, none⟩)), (4, .pointer (some ⟨a1, 0, none⟩)), (22, d2)] := E
  replace S := S.swap.unpack3
  have hq0 := Js e9
  replace hbx1 := c1.2 _ _ hbx1
  replace h0 := h0.le JN c1
  replace a2 := c1.2 _ _ a2
  refine Qh (Qj E Y ?_)
  clear E a; intro a E
  refine Qz ?_
  replace S := S.front3
  refine rb S ?_
  clear S; intro w S
  refine QW (Qh (QH E Y (Tryz.isAgg119 _) (Qo (S.mem (.tail _ (.head _)))) fun _ B => Qn B Y ?_))
  clear E a B; intro a E
  replace S := S.front2
  refine Jm (ZZ (vf := Value.bool) (u := false) E S Zc Y Y Y ?_)
  clear E a S; rintro a w E S
  refine Jz (ZK ?_)
  replace S := S.front3.front1.front3.front2.front2
  replace S := S.reM (L' := (Jd Value.bool (QP (Qw (((pre ++ [x])).map (fun x => x))) (fun _ => false)))) (congrArg (Jd Value.bool) (show Zj (QP (Qw ((pre).map (fun x => x))) (fun _ => false)) x false = QP (Qw (((pre ++ [x])).map (fun x => x))) (fun _ => false) by first | (simp [QP, Qw]; done) | exact ad_seq (fun x => x)))
  replace S := S.front2
  have S0 := S; clear S; have S := (St.pack [Jk a1 (.cells #[.map (some a0)] 119), Zd Value.bool a0 (QP (Qw (((pre ++ [x])).map (fun x => x))) (fun _ => false)), c0] S0).swap; clear S0
  exact ⟨e8, _, lerf, ⟨_, Y, Ju f0 (by (rfl))⟩, S⟩
 ·rintro a w d3 _ D_14 a7 ⟨c0, rfl, f0⟩ S E
  replace S := S.unpack3
  replace hbx1 := a7.2 _ _ hbx1
  replace h0 := h0.le JN a7
  replace a2 := a7.2 _ _ a2
  refine ZK (JZ (UK (Qb E Y Tryz.isAgg139 S.imm (Qf hbx1) fun _ B => Qt B Y ja h0.len fun _ C => JT (m := (((l0).length : Nat) : Int) - 2) C Y Y fun _ D => Qj D Y ?_)))
  clear E a B C D; intro a E
  refine ZH ?_
  replace S := S.front1
  replace S := S.reM (L' := (Jd Value.bool (QP (JY (fun x => x) l0 0) (fun _ => false)))) (congrArg (Jd Value.bool) (show QP (Qw ((d1).map (fun x => x))) (fun _ => false) = QP (JY (fun x => x) l0 0) (fun _ => false) by first | (show _ = QP (Qw _) _; rw [(Jl (n := l0.length - 1) (by assumption) (by omega))]; done) | (rw [sd_end (by assumption)]; rfl)))
  refine QN (γ := Nat) (fun (j : Nat) a w => ∃ (b3 : Hp) (cL1 : Qr) (Ds1 : List Nat), Hp.le d3 b3 ∧ St w b3 (Zd Value.bool a0 (QP (JY (fun x => x) l0 j) (fun _ => false)) :: Jk a1 (.cells #[.map (some a0)] 119) :: cL1 :: zt Ds1 :: H) ∧ Env a 81 (Ds1.map mk) [(1, .pointer (some ⟨bx1, 0, none⟩)), (2, .pointer (some ⟨a4, 0, none⟩)), (4, .pointer (some ⟨a1, 0, none⟩)), (6, .int .i64 ((l0.length : Int) - 2 - (j : Int)))] ∧ (j ≤ l0.length - 2) ∧ J ([] : List Int) b3 cL1) (fun j => l0.length - j) 0 ⟨d3, _, _, lerf, S, E.keep ⟨Y, Y, Y, Ye (i := (((l0).length : Nat) : Int) - 2) Y (by (omega)), trivial⟩, (by omega), Ju f0 (by (rfl))⟩ ?_
  try clear E
  try clear S
  try clear a
  try clear w
  rintro j a w ⟨b3, cL1, Ds1, a5, S, E, h9, f0⟩
  replace hbx1 := a5.2 _ _ hbx1
  replace h0 := h0.le JN a5
  replace a2 := a5.2 _ _ a2
  refine UK (Qn E Y fun _ B => Ys B Y Y fun _ C => Qn C Y ?_)
  clear E a B C; intro a E
  refine Jo (decide (0 < (l0.length : Int) - 2 - (j : Int))) (fun a8 => ?_) (fun a8 => ?_)
  ·replace E := E.val (t := 30) Y a8
   replace E := E.val (t := 31) Y a8
   replace a8 := of_decide_eq_true a8
   refine Qc E Y Y (QH E Y (Tryz.isAgg119 _) (Qo (S.mem (.tail _ (.head _)))) fun _ B => Qc B Y Y (S_w B ((jb B S Zc Y).trans (by rw [Wa])) fun _ C => Qc C Y Y (Wb C Y Y fun _ D => JA D Y Y ?_)))
   clear E a B C D; intro a E
   refine Qz ?_
   refine Ql E Y (fun f1 => ?_) (fun f1 => ?_)
   ·refine Qx (JZ (Je (QW (UK (Qb E Y Tryz.isAgg139 S.imm (Qf hbx1) fun _ B => Qn B Y ?_)))))
    clear E a B; intro a E
    obtain ⟨c3, f2⟩ : ∃ x, (l0)[((l0.length : Int) - 2 - (j : Int)).toNat]? = some x := ⟨_, List.getElem?_eq_getElem (by omega)⟩
    obtain ⟨i0, d4, f3, f4, f5⟩ := RdQ.at h0 f2
    refine QZ E Y Y ja f3 (by omega) fun _ B => Qb B Y Tryz.isAgg62 S.imm f4 ?_
    clear E a B; intro a E
    refine ZH ?_
    replace S := S.front1.front2.front2.front2
    replace E := E.keep (l' := [(1, .pointer (some ⟨bx1, 0, none⟩)), (2, .pointer (some ⟨a4, 0, none⟩)), (4, .pointer (some ⟨a1, 0, none⟩)), (6, .int .i64 ((l0.length : Int) - 2 - (j : Int))), (41, d4)]) ⟨Y, Y, Y, Y, Y, trivial⟩
    replace S := S.front2.front2
    replace S := S.reM (L' := (Jd Value.bool (QP (JY (fun x => x) l0 j) (YR ((([] : List Int)).map (fun x => x)))))) (congrArg (Jd Value.bool) (show QP (JY (fun x => x) l0 j) (fun _ => false) = QP (JY (fun x => x) l0 j) (YR ((([] : List Int)).map (fun x => x))) by first | (rw [List.map_nil, UT]; done) | (refine sq_yes (fun x => x) (Yo _ _ _) ?_; assumption) | (refine sq_no (fun x => x) ?_; assumption)))
    replace S := S.front2
    have S0 := S; clear S; have S := St.pack [Jk a1 (.cells #[.map (some a0)] 119), Zd Value.bool a0 (QP (JY (fun x => x) l0 j) (YR ((([] : List Int)).map (fun x => x)))), cL1] S0; clear S0
    refine JK (RV := QB) (l := c3) (fun pre M c => ∃ (c2 : Qr), c = Yf [Jk a1 (.cells #[.map (some a0)] 119), Zd Value.bool a0 (QP (JY (fun x => x) l0 j) (YR ((pre).map (fun x => x)))), c2] ∧ (J ([] : List Int) M c2)) (fun _ _ _ _ => False) E S Y f5 lerf (fun _ _ _ h => by rw [h]; rfl) (by decide) (by rintro _ M M' c hM ⟨c2, rfl, f0⟩; exact ⟨_, rfl, hJM _ _ _ _ hM f0⟩) ⟨_, rfl, Ju f0 (by (rfl))⟩ ?_ ?_ ?_
    clear E S
    ·rintro lb_22 rec_23 pre x _ a w c5 _ G c6 f6 rfl ⟨c2, rfl, f0⟩ E S
     replace E : Env a 81 [] [(42, .int .i64 x), (1, .pointer (some ⟨bx1, 0, none⟩)), (2, .pointer (some ⟨a4, 0, none⟩)), (4, .pointer (some ⟨a1, 0, none⟩)), (6, .int .i64 ((l0.length : Int) - 2 - (j : Int))), (41, d4)] := E
     replace S := S.swap.unpack3
     have hq2 := Js f6
     replace hbx1 := c6.2 _ _ hbx1
     replace h0 := h0.le JN c6
     replace a2 := c6.2 _ _ a2
     refine Qh (Qj E Y ?_)
     clear E a; intro a E
     refine Qz ?_
     replace S := S.front3
     refine rb S ?_
     clear S; intro w S
     refine QW (Qs (QH E Y (Tryz.isAgg119 _) (Qo (S.mem (.tail _ (.head _)))) fun _ B => Qn B Y ?_))
     clear E a B; intro a E
     replace S := S.front2
     refine Qk (Yb (vf := Value.bool) (zb := false) E S Y Zc Y Y ?_)
     clear E a S; rintro a w E S
     replace S : St w c5 (Zd Value.bool a0 (QP (JY (fun x => x) l0 j) (YR ((pre).map (fun x => x)))) :: _) := S
     refine Qn E Y fun _ B => Qg B Y Y fun _ C => Qg C Y Y fun _ D => QD 2 D Y fun _ F => QI (Qn F Y ?_)
     clear E a B C D F; intro a E
     refine Qz ?_
     refine Jf E Y (fun f7 => ?_) (fun f7 => ?_)
     ·refine Qh ?_
      refine QH E Y (Tryz.isAgg119 _) (Qo (S.mem (.tail _ (.tail _ (.head _))))) fun _ B => Qn B Y ?_
      clear E a B; intro a E
      refine Jm (ZZ (vf := Value.bool) (u := true) E S Zc Y Y Y ?_)
      clear E a S; rintro a w E S
      refine Jz (ZK ?_)
      replace S := S.front3.front1.front3.front2.front2
      replace S := S.reM (L' := (Jd Value.bool (QP (JY (fun x => x) l0 j) (YR (((pre ++ [x])).map (fun x => x)))))) (congrArg (Jd Value.bool) (show Zj (QP (JY (fun x => x) l0 j) (YR ((pre).map (fun x => x)))) x true = QP (JY (fun x => x) l0 j) (YR (((pre ++ [x])).map (fun x => x))) by first | (rw [List.map_nil, UT]; done) | (refine sq_yes (fun x => x) (Yo _ _ _) ?_; assumption) | (refine sq_no (fun x => x) ?_; assumption)))
      replace S := S.front2
      have S0 := S; clear S; have S := (St.pack [Jk a1 (.cells #[.map (some a0)] 119), Zd Value.bool a0 (QP (JY (fun x => x) l0 j) (YR (((pre ++ [x])).map (fun x => x)))), c2] S0).swap; clear S0
      exact ⟨c5, _, lerf, ⟨_, Y, Ju f0 (by (rfl))⟩, S⟩
     ·refine Qx ?_
      refine ZK ?_
      replace S := S.front3.front1.front3.front2.front2
      replace S := S.reM (L' := (Jd Value.bool (QP (JY (fun x => x) l0 j) (YR (((pre ++ [x])).map (fun x => x)))))) (congrArg (Jd Value.bool) (show QP (JY (fun x => x) l0 j) (YR ((pre).map (fun x => x))) = QP (JY (fun x => x) l0 j) (YR (((pre ++ [x])).map (fun x => x))) by first | (rw [List.map_nil, UT]; done) | (refine sq_yes (fun x => x) (Yo _ _ _) ?_; assumption) | (refine sq_no (fun x => x) ?_; assumption)))
      replace S := S.front2
      have S0 := S; clear S; have S := (St.pack [Jk a1 (.cells #[.map (some a0)] 119), Zd Value.bool a0 (QP (JY (fun x => x) l0 j) (YR (((pre ++ [x])).map (fun x => x)))), c2] S0).swap; clear S0
      exact ⟨c5, _, lerf, ⟨_, Y, Ju f0 (by (rfl))⟩, S⟩
    ·rintro a w c7 _ D_28 b4 ⟨c2, rfl, f0⟩ S E
     replace S := S.unpack3
     replace hbx1 := b4.2 _ _ hbx1
     replace h0 := h0.le JN b4
     replace a2 := b4.2 _ _ a2
     refine ZK (JZ (Qs (QH E Y (Tryz.isAgg119 _) (Qo (S.mem (.head _))) ?_)))
     clear E a; intro a E
     replace S := S.front1
     refine Qk (X_rangeW E S Y Zc Y ?_)
     clear E a S; rintro a w c8 E S
     replace S : St w c7 (yg a0 c8 (Jd Value.bool (QP (JY (fun x => x) l0 j) (YR ((c3).map (fun x => x))))) ([] : List Int) none :: _) := S
     refine ZH ?_
     replace S := S.reW (L' := (Jd Value.bool (Zh (JY (fun x => x) l0 j) (YR ((l0.getD (l0.length - 2 - j) []).map (fun x => x))) []))) (D' := []) (congrArg (Jd Value.bool) (show QP (JY (fun x => x) l0 j) (YR ((c3).map (fun x => x))) = Zh (JY (fun x => x) l0 j) (YR ((l0.getD (l0.length - 2 - j) []).map (fun x => x))) [] by first | (rw [(Jl (n := l0.length - 2 - j) (by assumption) (by omega)), UQ]; done) | (refine zA (Yo _ _ _) (by assumption) (by assumption) ?_; first | rfl | assumption) | (refine zB (by assumption) (by assumption) ?_; first | rfl | assumption))) (show ([] : List Int) = [] by first | rfl | (simp; done))
     refine QN (γ := List Int) (fun (dd : List Int) a w => ∃ (a9 : Hp) (cL3 : Qr), Hp.le c7 a9 ∧ St w a9 (yg a0 c8 (Jd Value.bool (Zh (JY (fun x => x) l0 j) (YR ((l0.getD (l0.length - 2 - j) []).map (fun x => x))) dd)) dd none :: Jk a1 (.cells #[.map (some a0)] 119) :: cL3 :: zt (D_28 :: Ds1) :: H) ∧ Env a 81 ((D_28 :: Ds1).map mk) [(1, .pointer (some ⟨bx1, 0, none⟩)), (2, .pointer (some ⟨a4, 0, none⟩)), (4, .pointer (some ⟨a1, 0, none⟩)), (6, .int .i64 ((l0.length : Int) - 2 - (j : Int))), (53, .pointer (some ⟨c8, 0, none⟩))] ∧ (dd.Nodup) ∧ (∀ z ∈ dd, z ∈ JY (fun x => x) l0 j) ∧ J ([] : List Int) a9 cL3) (fun dd => (JY (fun x => x) l0 j).length - dd.length) [] ⟨c7, _, lerf, S, E.keep ⟨Y, Y, Y, Y, Y, trivial⟩, (by simp), (by simp), Ju f0 (by (rfl))⟩ ?_
     try clear E
     try clear S
     try clear a
     try clear w
     rintro dd a w ⟨a9, cL3, b1, S, E, i1, i2, f0⟩
     replace hbx1 := b1.2 _ _ hbx1
     replace h0 := h0.le JN b1
     replace a2 := b1.2 _ _ a2
     refine Qs ?_
     refine Qk (X_nextWE (vf := Value.bool) E S Y Y ?_ ?_)
     ·clear E a S; rintro a E hpm_31 S
      refine Qg E Y Y ?_
      clear E a; intro a E
      refine ZJ ?_
      refine QF E Y Y ?_
      refine J_Aa (Qn E Y fun _ B => JT (m := ((l0.length : Int) - 2 - (j : Int)) - 1) B Y Y fun _ C => Qj C Y ?_)
      clear E a B C; intro a E
      refine Qz ?_
      replace S := S.reM (L' := (Jd Value.bool (QP (JY (fun x => x) l0 (j + 1)) (fun _ => false)))) (congrArg (Jd Value.bool) (show Zh (JY (fun x => x) l0 j) (YR ((l0.getD (l0.length - 2 - j) []).map (fun x => x))) dd = QP (JY (fun x => x) l0 (j + 1)) (fun _ => false) by first | (show _ = QP (Qw _) _; rw [(Jl (n := l0.length - 1) (by assumption) (by omega))]; done) | (rw [sd_end (by assumption)]; rfl)))
      exact ⟨j + 1, ⟨a9, _, _, (a5.trans (b4.trans b1)), S, E.keep ⟨Y, Y, Y, Ye (i := ((l0.length : Int) - 2 - (j : Int)) - 1) Y (by (omega)), trivial⟩, (by omega), Ju f0 (by (rfl))⟩, by omega⟩
     ·clear E a S w; rintro a w a3 i3 E hk_33 hk_33n S
      refine Qg E Y Y ?_
      clear E a; intro a E
      refine ZJ ?_
      refine QY E Y Y ?_
      refine Qx (JZ (QW (Qs (e_entryW E S Y fun _ B => Qg B Y Y fun _ C => Qg C Y Y fun _ D => QD 2 D Y fun _ F => QI (Qn F Y ?_)))))
      clear E a B C D F; intro a E
      refine Qz ?_
      refine Jf E Y (fun f8 => ?_) (fun f8 => ?_)
      ·refine Qh ?_
       refine QH E Y (Tryz.isAgg119 _) (Qo (S.mem (.tail _ (.head _)))) fun _ B => Qn B Y ?_
       clear E a B; intro a E
       refine Jm (vA (vf := Value.bool) (u := false) E S Zc Y Y Y (by exact List.mem_map_of_mem (f := Prod.fst) (by assumption)) ?_)
       clear E a S; rintro a w E S
       refine Jz (ZK (JZ ?_))
       replace S := S.reW (L' := (Jd Value.bool (Zh (JY (fun x => x) l0 j) (YR ((l0.getD (l0.length - 2 - j) []).map (fun x => x))) (dd ++ [a3])))) (D' := (dd ++ [a3])) (congrArg (Jd Value.bool) (show Zj (Zh (JY (fun x => x) l0 j) (YR ((l0.getD (l0.length - 2 - j) []).map (fun x => x))) dd) a3 false = Zh (JY (fun x => x) l0 j) (YR ((l0.getD (l0.length - 2 - j) []).map (fun x => x))) (dd ++ [a3]) by first | (rw [(Jl (n := l0.length - 2 - j) (by assumption) (by omega)), UQ]; done) | (refine zA (Yo _ _ _) (by assumption) (by assumption) ?_; first | rfl | assumption) | (refine zB (by assumption) (by assumption) ?_; first | rfl | assumption))) (show dd ++ [a3] = (dd ++ [a3]) by first | rfl | (simp; done))
       exact ⟨(dd ++ [a3]), ⟨a9, _, b1, S, E.keep ⟨Y, Y, Y, Y, Y, trivial⟩, (by exact Wo (by assumption) (by assumption)), (by exact qA (by assumption) (by assumption) (by assumption)), Ju f0 (by (rfl))⟩, (by have hlt := jV (by assumption) (by assumption) (by assumption) (by assumption); simp; omega)⟩
      ·refine Qh ?_
       refine QH E Y (Tryz.isAgg119 _) (Qo (S.mem (.tail _ (.head _)))) fun _ B => Qn B Y ?_
       clear E a B; intro a E
       refine Jm (jq (vf := Value.bool) E S Zc Y Y ?_)
       clear E a S; rintro a w E S
       refine Jz (ZK (JZ ?_))
       replace S := S.reW (L' := (Jd Value.bool (Zh (JY (fun x => x) l0 j) (YR ((l0.getD (l0.length - 2 - j) []).map (fun x => x))) (dd ++ [a3])))) (D' := (dd ++ [a3])) (congrArg (Jd Value.bool) (show YX (Zh (JY (fun x => x) l0 j) (YR ((l0.getD (l0.length - 2 - j) []).map (fun x => x))) dd) a3 = Zh (JY (fun x => x) l0 j) (YR ((l0.getD (l0.length - 2 - j) []).map (fun x => x))) (dd ++ [a3]) by first | (rw [(Jl (n := l0.length - 2 - j) (by assumption) (by omega)), UQ]; done) | (refine zA (Yo _ _ _) (by assumption) (by assumption) ?_; first | rfl | assumption) | (refine zB (by assumption) (by assumption) ?_; first | rfl | assumption))) (show dd ++ [a3] = (dd ++ [a3]) by first | rfl | (simp; done))
       exact ⟨(dd ++ [a3]), ⟨a9, _, b1, S, E.keep ⟨Y, Y, Y, Y, Y, trivial⟩, (by exact Wo (by assumption) (by assumption)), (by exact qA (by assumption) (by assumption) (by assumption)), Ju f0 (by (rfl))⟩, (by have hlt := jV (by assumption) (by assumption) (by assumption) (by assumption); simp; omega)⟩
    ·rintro _ _ _ _ _ _ _ _ _ hX; exact hX.elim
   ·refine VJ (Qb E Y Tryz.isAgg139 S.imm (Qf hbx1) ?_)
    clear E a; intro a E
    obtain ⟨d5, f9⟩ : ∃ x, (l0)[0]? = some x := ⟨_, List.getElem?_eq_getElem (by omega)⟩
    obtain ⟨i4, d6, g0, g1, g2⟩ := RdQ.at h0 f9
    refine QZ E Y Y ja g0 (by omega) fun _ B => Qb B Y Tryz.isAgg62 S.imm g1 ?_
    clear E a B; intro a E
    refine ZH ?_
    replace S := S.front1.front2.front2.front2
    replace E := E.keep (l' := [(2, .pointer (some ⟨a4, 0, none⟩)), (4, .pointer (some ⟨a1, 0, none⟩)), (66, d6)]) ⟨Y, Y, Y, trivial⟩
    replace S := S.front2.front2
    replace S := S.reM (L' := (Jd Value.bool (QP (JQ (fun x => x) (JY (fun x => x) l0 j) (([] : List Int))) (fun _ => false)))) (congrArg (Jd Value.bool) (show QP (JY (fun x => x) l0 j) (fun _ => false) = QP (JQ (fun x => x) (JY (fun x => x) l0 j) (([] : List Int))) (fun _ => false) by first | rfl | exact YD _ _ | exact GX (fun x => x) _ _ _ | (refine rq_no (fun x => x) ?_; assumption)))
    replace S := S.front2
    have S0 := S; clear S; have S := St.pack [Jk a1 (.cells #[.map (some a0)] 119), Zd Value.bool a0 (QP (JQ (fun x => x) (JY (fun x => x) l0 j) (([] : List Int))) (fun _ => false)), cL1] S0; clear S0
    refine JK (RV := QB) (l := d5) (fun pre M c => ∃ (c4 : Qr), c = Yf [Jk a1 (.cells #[.map (some a0)] 119), Zd Value.bool a0 (QP (JQ (fun x => x) (JY (fun x => x) l0 j) (pre)) (fun _ => false)), c4] ∧ (J (ZY (fun x => x) (JY (fun x => x) l0 j) (pre)) M c4)) (fun cd pre M c => cd = .ret ∧ ∃ z, z <+: (Ub (fun x => x) l0) ∧ X z M c) E S Y g2 lerf (fun _ _ _ h => by rw [h]; rfl) (by decide) (by rintro _ M M' c hM ⟨c4, rfl, f0⟩; exact ⟨_, rfl, hJM _ _ _ _ hM f0⟩) ⟨_, rfl, Ju f0 (by (rfl))⟩ ?_ ?_ ?_
    clear E S
    ·rintro lb_40 rec_41 pre x _ a w d7 _ G b5 g3 rfl ⟨c4, rfl, f0⟩ E S
     replace E : Env a 81 [] [(67, .int .i64 x), (2, .pointer (some ⟨a4, 0, none⟩)), (4, .pointer (some ⟨a1, 0, none⟩)), (66, d6)] := E
     replace S := S.swap.unpack3
     have hq4 := Js g3
     replace hbx1 := b5.2 _ _ hbx1
     replace h0 := h0.le JN b5
     replace a2 := b5.2 _ _ a2
     refine Qh (Qj E Y ?_)
     clear E a; intro a E
     refine Qz ?_
     replace S := S.front3
     refine rb S ?_
     clear S; intro w S
     refine QW (Qs (QH E Y (Tryz.isAgg119 _) (Qo (S.mem (.tail _ (.head _)))) fun _ B => Qn B Y ?_))
     clear E a B; intro a E
     replace S := S.front2
     refine Qk (Yb (vf := Value.bool) (zb := false) E S Y Zc Y Y ?_)
     clear E a S; rintro a w E S
     replace S : St w d7 (Zd Value.bool a0 (QP (JQ (fun x => x) (JY (fun x => x) l0 j) (pre)) (fun _ => false)) :: _) := S
     refine Qn E Y fun _ B => Qg B Y Y fun _ C => Qg C Y Y fun _ D => QD 2 D Y fun _ F => QI (Qn F Y ?_)
     clear E a B C D F; intro a E
     refine Qz ?_
     refine Jf E Y (fun g4 => ?_) (fun g4 => ?_)
     ·refine Je ?_
      refine Qs (Qb E Y Tryz.isAgg95 S.imm (Qf a2) fun _ B => Qn B Y ?_)
      clear E a B; intro a E
      replace S := S.front3
      refine Qk (JC (x := x) E S Y Y Y hY (a6.trans (a7.trans (a5.trans b5))) (by exact Gv (f := fun x => x) (by omega) (by (right; exact zY (f := fun _ => false) (by first | assumption | omega))) (by assumption) (by assumption) (by assumption)) Y f0 ?_)
      clear E a S; rintro a w b6 c9 go_47 b2 f0 S E
      replace hbx1 := b2.2 _ _ hbx1
      replace h0 := h0.le JN b2
      replace a2 := b2.2 _ _ a2
      cases go_47
      ·replace f0 : X (ZY (fun x => x) (JY (fun x => x) l0 j) (pre) ++ [x]) b6 c9 := f0
       refine Ji E Y ?_
       clear E a; intro a E
       refine Qz ?_
       refine QY E Y Y ?_
       refine QM (UA (ZC ?_))
       replace S := S.front1.drop.front2.drop.front1
       exact ⟨b6, _, b2, ⟨Y, _, (by (exact Gv (f := fun x => x) (by omega) (by first | (left; omega) | (right; exact zY (f := fun _ => false) (by first | assumption | omega))) (by assumption) (by assumption) (by assumption))), f0⟩, S⟩
      ·replace f0 : J (ZY (fun x => x) (JY (fun x => x) l0 j) (pre) ++ [x]) b6 c9 := f0
       refine Ji E Y ?_
       clear E a; intro a E
       refine Qz ?_
       refine QF E Y Y ?_
       refine Qx (JZ (Qh (QH E Y (Tryz.isAgg119 _) (Qo (S.mem (.tail _ (.tail _ (.tail _ (.head _)))))) fun _ B => Qn B Y ?_)))
       clear E a B; intro a E
       replace S := S.front1
       refine Jm (WE (vf := Value.bool) E S Zc Y Y ?_)
       clear E a S; rintro a w E S
       refine Jz (ZK ?_)
       replace S := S.front1.front1.front3.front2.front2
       replace S := S.reM (L' := (Jd Value.bool (QP (JQ (fun x => x) (JY (fun x => x) l0 j) ((pre ++ [x]))) (fun _ => false)))) (congrArg (Jd Value.bool) (show YX (QP (JQ (fun x => x) (JY (fun x => x) l0 j) (pre)) (fun _ => false)) x = QP (JQ (fun x => x) (JY (fun x => x) l0 j) ((pre ++ [x]))) (fun _ => false) by first | rfl | exact YD _ _ | exact GX (fun x => x) _ _ _ | (refine rq_no (fun x => x) ?_; assumption)))
       replace S := S.front2
       have S0 := S; clear S; have S := (St.pack [Jk a1 (.cells #[.map (some a0)] 119), Zd Value.bool a0 (QP (JQ (fun x => x) (JY (fun x => x) l0 j) ((pre ++ [x]))) (fun _ => false)), c9] S0).swap; clear S0
       exact ⟨b6, _, b2, ⟨_, Y, Ju f0 (by ((refine jZ (f := fun x => x) ?_; assumption)))⟩, S⟩
     ·refine Qx ?_
      refine ZK ?_
      replace S := S.front3.front1.front3.front2.front2
      replace S := S.reM (L' := (Jd Value.bool (QP (JQ (fun x => x) (JY (fun x => x) l0 j) ((pre ++ [x]))) (fun _ => false)))) (congrArg (Jd Value.bool) (show QP (JQ (fun x => x) (JY (fun x => x) l0 j) (pre)) (fun _ => false) = QP (JQ (fun x => x) (JY (fun x => x) l0 j) ((pre ++ [x]))) (fun _ => false) by first | rfl | exact YD _ _ | exact GX (fun x => x) _ _ _ | (refine rq_no (fun x => x) ?_; assumption)))
      replace S := S.front2
      have S0 := S; clear S; have S := (St.pack [Jk a1 (.cells #[.map (some a0)] 119), Zd Value.bool a0 (QP (JQ (fun x => x) (JY (fun x => x) l0 j) ((pre ++ [x]))) (fun _ => false)), c4] S0).swap; clear S0
      exact ⟨d7, _, lerf, ⟨_, Y, Ju f0 (by ((refine iq_no (fun x => x) ?_; assumption)))⟩, S⟩
    ·rintro a w g5 _ D_49 b7 ⟨c4, rfl, f0⟩ S E
     replace S := S.unpack3
     replace hbx1 := b7.2 _ _ hbx1
     replace h0 := h0.le JN b7
     replace a2 := b7.2 _ _ a2
     refine ZK (Yh ?_)
     replace S := S.drop.drop.front1
     have hpre : ZY (fun x => x) (JY (fun x => x) l0 j) (d5) = Ub (fun x => x) l0 := by (exact meet_done (by omega) (by (right; exact zY (f := fun _ => false) (by first | assumption | omega))) (by assumption))
     rw [hpre] at f0
     exact QR E S Tryz.results335 (fun w S => ⟨_, Y, g5, _, (a6.trans (a7.trans (a5.trans b7))), .inl f0, S⟩)
    ·rintro a w g6 c_ D_51 i5 _ b8 i6 ⟨rfl, z_, hz_, f0⟩ S E
     replace hbx1 := b8.2 _ _ hbx1
     replace h0 := h0.le JN b8
     replace a2 := b8.2 _ _ a2
     refine QM (ZC ?_)
     replace S := S.front1
     exact QR E S Tryz.results335 (fun w S => ⟨_, Y, g6, _, (a6.trans (a7.trans (a5.trans b8))), .inr ⟨z_, (by assumption), f0⟩, S⟩)
  ·replace E := E.val (t := 30) Y a8
   replace E := E.val (t := 31) Y a8
   replace a8 := of_decide_eq_false a8
   refine Qe E Y Y Y Y fun _ B => Qe B Y Y Y Y fun _ C => Qe C Y Y Y Y fun _ D => JB D Y Y ?_
   clear E a B C D; intro a E
   refine Qz ?_
   refine QF E Y Y ?_
   refine VJ (Qb E Y Tryz.isAgg139 S.imm (Qf hbx1) ?_)
   clear E a; intro a E
   obtain ⟨d8, g7⟩ : ∃ x, (l0)[0]? = some x := ⟨_, List.getElem?_eq_getElem (by omega)⟩
   obtain ⟨i7, d9, g8, g9, h1⟩ := RdQ.at h0 g7
   refine QZ E Y Y ja g8 (by omega) fun _ B => Qb B Y Tryz.isAgg62 S.imm g9 ?_
   clear E a B; intro a E
   refine ZH ?_
   replace S := S.front1.front2.front2.front2
   replace E := E.keep (l' := [(2, .pointer (some ⟨a4, 0, none⟩)), (4, .pointer (some ⟨a1, 0, none⟩)), (66, d9)]) ⟨Y, Y, Y, trivial⟩
   replace S := S.front2.front2
   replace S := S.reM (L' := (Jd Value.bool (QP (JQ (fun x => x) (JY (fun x => x) l0 j) (([] : List Int))) (fun _ => false)))) (congrArg (Jd Value.bool) (show QP (JY (fun x => x) l0 j) (fun _ => false) = QP (JQ (fun x => x) (JY (fun x => x) l0 j) (([] : List Int))) (fun _ => false) by first | rfl | exact YD _ _ | exact GX (fun x => x) _ _ _ | (refine rq_no (fun x => x) ?_; assumption)))
   replace S := S.front2
   have S0 := S; clear S; have S := St.pack [Jk a1 (.cells #[.map (some a0)] 119), Zd Value.bool a0 (QP (JQ (fun x => x) (JY (fun x => x) l0 j) (([] : List Int))) (fun _ => false)), cL1] S0; clear S0
   refine JK (RV := QB) (l := d8) (fun pre M c => ∃ (c4 : Qr), c = Yf [Jk a1 (.cells #[.map (some a0)] 119), Zd Value.bool a0 (QP (JQ (fun x => x) (JY (fun x => x) l0 j) (pre)) (fun _ => false)), c4] ∧ (J (ZY (fun x => x) (JY (fun x => x) l0 j) (pre)) M c4)) (fun cd pre M c => cd = .ret ∧ ∃ z, z <+: (Ub (fun x => x) l0) ∧ X z M c) E S Y h1 lerf (fun _ _ _ h => by rw [h]; rfl) (by decide) (by rintro _ M M' c hM ⟨c4, rfl, f0⟩; exact ⟨_, rfl, hJM _ _ _ _ hM f0⟩) ⟨_, rfl, Ju f0 (by (rfl))⟩ ?_ ?_ ?_
   clear E S
   ·rintro lb_58 rec_59 pre x _ a w e0 _ G e1 h2 rfl ⟨c4, rfl, f0⟩ E S
    replace E : Env a 81 [] [(67, .int .i64 x), (2, .pointer (some ⟨a4, 0, none⟩)), (4, .pointer (some ⟨a1, 0, none⟩)), (66, d9)] := E
    replace S := S.swap.unpack3
    have hq4 := Js h2
    replace a2 := e1.2 _ _ a2
    refine Qh (Qj E Y ?_)
    clear E a; intro a E
    refine Qz ?_
    replace S := S.front3
    refine rb S ?_
    clear S; intro w S
    refine QW (Qs (QH E Y (Tryz.isAgg119 _) (Qo (S.mem (.tail _ (.head _)))) fun _ B => Qn B Y ?_))
    clear E a B; intro a E
    replace S := S.front2
    refine Qk (Yb (vf := Value.bool) (zb := false) E S Y Zc Y Y ?_)
    clear E a S; rintro a w E S
    replace S : St w e0 (Zd Value.bool a0 (QP (JQ (fun x => x) (JY (fun x => x) l0 j) (pre)) (fun _ => false)) :: _) := S
    refine Qn E Y fun _ B => Qg B Y Y fun _ C => Qg C Y Y fun _ D => QD 2 D Y fun _ F => QI (Qn F Y ?_)
    clear E a B C D F; intro a E
    refine Qz ?_
    refine Jf E Y (fun h3 => ?_) (fun h3 => ?_)
    ·refine Je ?_
     refine Qs (Qb E Y Tryz.isAgg95 S.imm (Qf a2) fun _ B => Qn B Y ?_)
     clear E a B; intro a E
     replace S := S.front3
     refine Qk (JC (x := x) E S Y Y Y hY (a6.trans (a7.trans (a5.trans e1))) (by exact Gv (f := fun x => x) (by omega) (by (left; omega)) (by assumption) (by assumption) (by assumption)) Y f0 ?_)
     clear E a S; rintro a w b9 d0 go_65 e2 f0 S E
     cases go_65
     ·replace f0 : X (ZY (fun x => x) (JY (fun x => x) l0 j) (pre) ++ [x]) b9 d0 := f0
      refine Ji E Y ?_
      clear E a; intro a E
      refine Qz ?_
      refine QY E Y Y ?_
      refine QM (UA (ZC ?_))
      replace S := S.front1.drop.front2.drop.front1
      exact ⟨b9, _, e2, ⟨Y, _, (by (exact Gv (f := fun x => x) (by omega) (by first | (left; omega) | (right; exact zY (f := fun _ => false) (by first | assumption | omega))) (by assumption) (by assumption) (by assumption))), f0⟩, S⟩
     ·replace f0 : J (ZY (fun x => x) (JY (fun x => x) l0 j) (pre) ++ [x]) b9 d0 := f0
      refine Ji E Y ?_
      clear E a; intro a E
      refine Qz ?_
      refine QF E Y Y ?_
      refine Qx (JZ (Qh (QH E Y (Tryz.isAgg119 _) (Qo (S.mem (.tail _ (.tail _ (.tail _ (.head _)))))) fun _ B => Qn B Y ?_)))
      clear E a B; intro a E
      replace S := S.front1
      refine Jm (WE (vf := Value.bool) E S Zc Y Y ?_)
      clear E a S; rintro a w E S
      refine Jz (ZK ?_)
      replace S := S.front1.front1.front3.front2.front2
      replace S := S.reM (L' := (Jd Value.bool (QP (JQ (fun x => x) (JY (fun x => x) l0 j) ((pre ++ [x]))) (fun _ => false)))) (congrArg (Jd Value.bool) (show YX (QP (JQ (fun x => x) (JY (fun x => x) l0 j) (pre)) (fun _ => false)) x = QP (JQ (fun x => x) (JY (fun x => x) l0 j) ((pre ++ [x]))) (fun _ => false) by first | rfl | exact YD _ _ | exact GX (fun x => x) _ _ _ | (refine rq_no (fun x => x) ?_; assumption)))
      replace S := S.front2
      have S0 := S; clear S; have S := (St.pack [Jk a1 (.cells #[.map (some a0)] 119), Zd Value.bool a0 (QP (JQ (fun x => x) (JY (fun x => x) l0 j) ((pre ++ [x]))) (fun _ => false)), d0] S0).swap; clear S0
      exact ⟨b9, _, e2, ⟨_, Y, Ju f0 (by ((refine jZ (f := fun x => x) ?_; assumption)))⟩, S⟩
    ·refine Qx ?_
     refine ZK ?_
     replace S := S.front3.front1.front3.front2.front2
     replace S := S.reM (L' := (Jd Value.bool (QP (JQ (fun x => x) (JY (fun x => x) l0 j) ((pre ++ [x]))) (fun _ => false)))) (congrArg (Jd Value.bool) (show QP (JQ (fun x => x) (JY (fun x => x) l0 j) (pre)) (fun _ => false) = QP (JQ (fun x => x) (JY (fun x => x) l0 j) ((pre ++ [x]))) (fun _ => false) by first | rfl | exact YD _ _ | exact GX (fun x => x) _ _ _ | (refine rq_no (fun x => x) ?_; assumption)))
     replace S := S.front2
     have S0 := S; clear S; have S := (St.pack [Jk a1 (.cells #[.map (some a0)] 119), Zd Value.bool a0 (QP (JQ (fun x => x) (JY (fun x => x) l0 j) ((pre ++ [x]))) (fun _ => false)), c4] S0).swap; clear S0
     exact ⟨e0, _, lerf, ⟨_, Y, Ju f0 (by ((refine iq_no (fun x => x) ?_; assumption)))⟩, S⟩
   ·rintro a w h4 _ D_67 h5 ⟨c4, rfl, f0⟩ S E
    replace S := S.unpack3
    refine ZK (Yh ?_)
    replace S := S.drop.drop.front1
    have hpre : ZY (fun x => x) (JY (fun x => x) l0 j) (d8) = Ub (fun x => x) l0 := by (exact meet_done (by omega) (by (left; omega)) (by assumption))
    rw [hpre] at f0
    exact QR E S Tryz.results335 (fun w S => ⟨_, Y, h4, _, (a6.trans (a7.trans (a5.trans h5))), .inl f0, S⟩)
   ·rintro a w h6 c_ D_69 i8 _ h7 i9 ⟨rfl, z_, hz_, f0⟩ S E
    refine QM (ZC ?_)
    replace S := S.front1
    exact QR E S Tryz.results335 (fun w S => ⟨_, Y, h6, _, (a6.trans (a7.trans (a5.trans h7))), .inr ⟨z_, (by assumption), f0⟩, S⟩)
 ·rintro _ _ _ _ _ _ _ _ _ hX; exact hX.elim
theorem it_Intersect {M : Hp} {v0 : Value} {l0 : List (List Int)} (h0 : QX 1 (RSq Tryz.prog QB) M v0 l0) :
  Pu Tryz.prog (.func (.func 312) #[] #[]) M [v0] (fun r M' => Jh Tryz.prog r M' QB (Ub (fun x => x) l0)) := by
 refine Qd Tryz.func312 Y Tryz.ntmps312 Y Tryz.call312 ?_
 intro a w M1 H hM1 S E
 replace h0 := h0.le JN hM1
 have b0 := h0.bound
 refine Qs ?_
 refine Qk (QA (cs := #[v0]) E S Y Y (cells_one (QX.one' h0)) ?_)
 clear E a S; rintro a w a7 E S
 obtain ⟨a3, a1, a0, S⟩ := S.freezeB
 replace h0 := h0.le JN a1
 refine Qj E Y fun _ B => Zp (Qb B Y Tryz.isAgg139 S.imm (Qf a0) fun _ C => Qt C Y ja h0.len fun _ D => QK D Y Y ?_)
 clear E a B C D; intro a E
 refine Qz ?_
 refine Ql E Y (fun a4 => ?_) (fun a4 => ?_)
 ·refine Qs ?_
  refine Qk (Qm E S Y Y Y (it_Empty ) lerf ?_)
  clear E a S; rintro a a8 w a5 a2 a6 S E
  replace h0 := h0.le JN a2
  replace a0 := a2.2 _ _ a0
  refine Qj E Y ?_
  clear E a; intro a E
  refine UJ ?_
  exact Qa E Tryz.results312 Y ⟨_, Y, a5, (a1.trans a2), (Jy a6 (by (have e := List.eq_nil_of_length_eq_zero (l := l0) (by omega); subst e; rfl))), S⟩
 ·refine VC (Qv E Y Y fun _ B => Qj B Y ?_)
  clear E a B; intro a E
  refine Jj ?_
  exact Qa E Tryz.results312 Y ⟨_, Y, a3, a1, (Jy (it_Intersect1 h0 (by omega) a0) (by rfl)), S⟩
theorem qX {M : Hp} {v0 : Value} {l0 : List (List Int)} (h0 : Zf M v0 l0) (hb2 : l0.length ≤ 1000000000) (hb : ∀ x ∈ l0, x.length ≤ 1000000000) :
  Pu Tryz.prog (.func (.func 227) #[] #[]) M [v0] (fun r M' => Qy M' r (Ub (fun x => x) l0)) := by
 refine Qd Tryz.func227 Y Tryz.ntmps227 Y Tryz.call227 ?_
 intro a w M1 H hM1 S E
 replace h0 := h0.le hM1
 have b0 := h0.bound
 have hml := yD (fun x => x) (ll := l0) hb
 refine Qs (Qj E Y fun _ B => QI (Qn B Y ?_))
 clear E a B; intro a E
 refine Qk (Qm E S Y Y Y (zL h0 (by omega)) lerf ?_)
 clear E a S; rintro a a7 w a8 a0 a1 S E
 refine Qk (Qm E S Y Y Y (it_Intersect a1) lerf ?_)
 clear E a S; rintro a a9 w b1 a2 a3 S E
 refine Qk (Qm E S Y Y Y (QJ a3 (by omega)) lerf ?_)
 clear E a S; rintro a b2 w a4 a5 a6 S E
 refine Qj E Y ?_
 clear E a; intro a E
 refine Jj ?_
 exact Qa E Tryz.results227 Y ⟨_, Y, a4, (a0.trans (a2.trans a5)), a6, S⟩
theorem zI {M : Hp} {sd sn sm pk pn kk kn : Int} {wv cv : Value} {pl c : List Int} (hw : Qy M wv pl) (hc : Qy M cv c) {v1 : Value} {l : List Int} (h1 : Qy M v1 l) {na nb : Nat} (gd : -9223372036854775808 ≤ sd ∧ sd ≤ 9223372036854775807) (gn : -9223372036854775808 ≤ sn ∧ sn ≤ 9223372036854775807) (gm : -9223372036854775808 ≤ sm ∧ sm ≤ 9223372036854775807) (gpn : -9223372036854775808 ≤ pn ∧ pn ≤ 9223372036854775807) (gkn : -9223372036854775808 ≤ kn ∧ kn ≤ 9223372036854775807) (hb : l.length ≤ 10000) (hcb : c.length ≤ 10000) (hpb : pl.length ≤ 10000) (ha : na = (sn % 12).toNat) (hbb : nb = (sm % 12).toNat)  :
  Pu Tryz.prog (.func (.func 88) #[] #[]) M [.agg #[.int .i64 sd, .int .i64 sn, .int .i64 sm, .int .i64 pk, .int .i64 pn, wv, .int .i64 kk, .int .i64 kn, cv], v1, .int .i64 ((na : Nat) : Int), .int .i64 ((nb : Nat) : Int)] (fun r M' => Qy M' r (Un (sd % 47).toNat na nb sn sm pk pn pl kk kn c l)) := by
 refine Qd Tryz.func88 Y Tryz.ntmps88 Y Tryz.call88 ?_
 intro a w M1 H hM1 S E
 replace hw := hw.le hM1
 replace hc := hc.le hM1
 replace h1 := h1.le hM1
 have bw := hw.bound
 have bc := hc.bound
 have b1 := h1.bound
 have hdb : (sd % 47).toNat < 47 := by omega
 refine Qs ?_
 refine Qk (QA (cs := #[.int .i64 sd, .int .i64 sn, .int .i64 sm, .int .i64 pk, .int .i64 pn, wv, .int .i64 kk, .int .i64 kn, cv]) E S Y Y Y ?_)
 clear E a S; rintro a w l8 E S
 obtain ⟨l9, a2, a0, S⟩ := S.freezeB
 replace hw := hw.le a2
 replace hc := hc.le a2
 replace h1 := h1.le a2
 refine Qj E Y fun _ B => Zp (Qi B Y (WH _) fun _ D => Qb D Y Tryz.isAgg3 S.imm (Qq a0 Y) ?_)
 clear E a B D; intro a E
 refine Qk (Qm E S Y Y Y (ZM (by omega) (by omega)) lerf ?_)
 clear E a S; rintro a _ w d9 a1 rfl S E
 replace hw := hw.le a1
 replace hc := hc.le a1
 replace h1 := h1.le a1
 replace a0 := a1.2 _ _ a0
 refine J_w (QK E Y Y fun _ B => Qj B Y ?_)
 clear E a B; intro a E
 refine Qz ?_
 refine Ql E Y (fun e0 => ?_) (fun e0 => ?_)
 ·refine Qs (QD 3 E Y fun _ B => Qt B Y QE h1.len fun _ D => e_min (m := ((min na ((l).length) : Nat) : Int)) D Y Y (by omega) fun _ F => Qi F Y (JR _) fun _ G => Qb G Y Tryz.isAgg22 S.imm (Qq a0 Y) ?_)
  clear E a B D F G; intro a E
  refine Qk (Qm E S Y Y Y (vb h1 hc (by (omega)) (by omega)) lerf ?_)
  clear E a S; rintro a _ w m0 a5 ⟨m1, rfl, e1⟩ S E
  replace hw := hw.le a5
  replace hc := hc.le a5
  replace h1 := h1.le a5
  replace a0 := a5.2 _ _ a0
  refine Qg E Y Y fun _ B => Qg B Y Y ?_
  clear E a B; intro a E
  refine Qk (Qm E S Y Y Y (Yx e1) lerf ?_)
  clear E a S; rintro a m2 w e2 a6 e3 S E
  replace hw := hw.le a6
  replace hc := hc.le a6
  replace h1 := h1.le a6
  replace a0 := a6.2 _ _ a0
  refine Qj E Y ?_
  clear E a; intro a E
  refine YO ?_
  exact Qa E Tryz.results88 Y ⟨_, Y, e2, (a2.trans (a1.trans (a5.trans a6))), (QX.eqL e3 (by (rw [show (sd % 47).toNat = 25 from by omega]; exact splice_spF.symm))), S⟩
 ·refine Qs (QK E Y Y fun _ B => Qj B Y ?_)
  clear E a B; intro a E
  refine Qz ?_
  refine Ql E Y (fun e4 => ?_) (fun e4 => ?_)
  ·refine Qs (Qn E Y fun _ B => Qi B Y (JR _) fun _ D => Qb D Y Tryz.isAgg22 S.imm (Qq a0 Y) ?_)
   clear E a B D; intro a E
   refine Qk (Qm E S Y Y Y (zM h1 hc (by (omega))) lerf ?_)
   clear E a S; rintro a m3 w e5 a7 e6 S E
   replace hw := hw.le a7
   replace hc := hc.le a7
   replace h1 := h1.le a7
   replace a0 := a7.2 _ _ a0
   refine Qj E Y ?_
   clear E a; intro a E
   refine YO ?_
   exact Qa E Tryz.results88 Y ⟨_, Y, e5, (a2.trans (a1.trans a7)), (QX.eqL e6 (by ((rw [show (sd % 47).toNat = 26 from by omega]; rfl)))), S⟩
  ·refine Qs (QK E Y Y fun _ B => Qj B Y ?_)
   clear E a B; intro a E
   refine Qz ?_
   refine Ql E Y (fun e7 => ?_) (fun e7 => ?_)
   ·refine Qs (Qn E Y fun _ B => Qi B Y (JR _) fun _ D => Qb D Y Tryz.isAgg22 S.imm (Qq a0 Y) ?_)
    clear E a B D; intro a E
    refine Qk (Qm E S Y Y Y (qV h1 hc (by (omega))) lerf ?_)
    clear E a S; rintro a m4 w e8 a8 e9 S E
    replace hw := hw.le a8
    replace hc := hc.le a8
    replace h1 := h1.le a8
    replace a0 := a8.2 _ _ a0
    refine Qj E Y ?_
    clear E a; intro a E
    refine YO ?_
    exact Qa E Tryz.results88 Y ⟨_, Y, e8, (a2.trans (a1.trans a8)), (QX.eqL e9 (by ((rw [show (sd % 47).toNat = 27 from by omega]; rfl)))), S⟩
   ·refine Qs (QK E Y Y fun _ B => Qj B Y ?_)
    clear E a B; intro a E
    refine Qz ?_
    refine Ql E Y (fun f0 => ?_) (fun f0 => ?_)
    ·refine Qs (Qn E Y fun _ B => Qi B Y (JR _) fun _ D => Qb D Y Tryz.isAgg22 S.imm (Qq a0 Y) ?_)
     clear E a B D; intro a E
     refine Qk (Qm E S Y Y Y (impl_TrimSeq h1 hc (by (omega))) lerf ?_)
     clear E a S; rintro a m5 w f1 a9 f2 S E
     replace hw := hw.le a9
     replace hc := hc.le a9
     replace h1 := h1.le a9
     replace a0 := a9.2 _ _ a0
     refine Qj E Y ?_
     clear E a; intro a E
     refine YO ?_
     exact Qa E Tryz.results88 Y ⟨_, Y, f1, (a2.trans (a1.trans a9)), (QX.eqL f2 (by ((rw [show (sd % 47).toNat = 28 from by omega]; rfl)))), S⟩
    ·refine Qs (QK E Y Y fun _ B => Qj B Y ?_)
     clear E a B; intro a E
     refine Qz ?_
     refine Ql E Y (fun f3 => ?_) (fun f3 => ?_)
     ·refine Qs (Qn E Y fun _ B => Qi B Y (JR _) fun _ D => Qb D Y Tryz.isAgg22 S.imm (Qq a0 Y) ?_)
      clear E a B D; intro a E
      refine Qk (Qm E S Y Y Y (qe h1 hc (by (omega))) lerf ?_)
      clear E a S; rintro a m6 w f4 b0 f5 S E
      replace hw := hw.le b0
      replace hc := hc.le b0
      replace h1 := h1.le b0
      replace a0 := b0.2 _ _ a0
      refine Qj E Y ?_
      clear E a; intro a E
      refine YO ?_
      exact Qa E Tryz.results88 Y ⟨_, Y, f4, (a2.trans (a1.trans b0)), (QX.eqL f5 (by ((rw [show (sd % 47).toNat = 29 from by omega]; rfl)))), S⟩
     ·refine Qs (QK E Y Y fun _ B => Qj B Y ?_)
      clear E a B; intro a E
      refine Qz ?_
      refine Ql E Y (fun f6 => ?_) (fun f6 => ?_)
      ·refine Je ?_
       have hb_1k21 := a0
       replace S := S.mono_heap (w' := World.drew _) rfl
       refine Jb (C := fun x w => agree d9 w) (bf := (fun i => [])) [0, 1, 2, 3, 4, 5, 6, 7, 8, 9, 10, 11, 13, 14] [0, 1, 2, 3, 4, 5, 6, 7, 8, 9, 10, 11, 12, 13, 14] Tryz.mixed (by kernel_rfl) (fun x hq => S.imm) ?_
       refine QU E Y (fun w hC => (Yt E Y (JR _))) fun _ B => QU B Y (fun w hC => (QQ B Y Tryz.isAgg22 hC (Qq hb_1k21 Y))) fun _ D => QU D Y (fun w hC => (vG D Y QE hc.len)) fun _ F => QU F Y (fun w hC => (R_gtr F Y Y)) fun _ G => QU G Y (fun w hC => (QL G Y)) ?_
       clear E a B D F G; intro a E
       refine Jo (decide (0 < (((c).length : Nat) : Int))) (fun a3 => ?_) (fun a3 => ?_)
       ·replace E := E.val (t := 54) Y a3
        replace E := E.val (t := 55) Y a3
        replace a3 := of_decide_eq_true a3
        refine ZG E Y Y Y Y Y (fun w hC => (Yt E Y (JR _))) fun _ B => ZG B Y Y Y Y Y (fun w hC => (QQ B Y Tryz.isAgg22 hC (Qq hb_1k21 Y))) ?_
        clear E a B; intro a E
        obtain ⟨f7, f8, d5⟩ := hc.subv 1 ((c).length) (by omega) (by omega)
        simp only [List.take_length] at d5
        replace d5 : Qy d9 f7 ((c).drop 1) := d5
        refine ZG E Y Y Y Y Y (fun w hC => (Wh E Y Y QE hc.len f8 (by omega))) fun _ B => ZG B Y Y Y Y Y (fun w hC => (Yt B Y (JR _))) fun _ D => ZG D Y Y Y Y Y (fun w hC => (QQ D Y Tryz.isAgg22 hC (Qq hb_1k21 Y))) ?_
        clear E a B D; intro a E
        obtain ⟨m7, f9⟩ : ∃ x, (c)[0]? = some x := ⟨_, List.getElem?_eq_getElem (by omega)⟩
        obtain ⟨m8, g0, g1⟩ := hc.at f9
        refine ZG E Y Y Y Y Y (fun w hC => (ZO E Y Y QE g0 (by omega))) fun _ B => ZG B Y Y Y Y Y (fun w hC => (QQ B Y Tryz.isAgg3 hC g1)) ?_
        clear E a B; intro a E
        refine D_yes E Y Y Y Y (Qm E S Y Y Y (laws_in d5) lerf ?_)
        clear E a S; rintro a _ w m9 a4 rfl S E
        replace hw := hw.le a4
        replace hc := hc.le a4
        replace h1 := h1.le a4
        replace a0 := a4.2 _ _ a0
        refine ⟨fun x hq hb => (Qu a4 S.imm), ?_⟩
        refine ZG E Y Y Y Y Y (fun w hC => (YN E Y)) fun _ B => QU B Y (fun w hC => (zq B Y Y)) ?_
        clear E a B; intro a E
        refine JI (JH ?_)
        refine JZ ?_
        refine Jf E Y (fun g2 => ?_) (fun g2 => ?_)
        ·refine Je ?_
         refine Qh (Qn E Y fun _ B => Qi B Y (JR _) fun _ D => Qb D Y Tryz.isAgg22 S.imm (Qq a0 Y) ?_)
         clear E a B D; intro a E
         refine Qk (Qm E S Y Y Y (qc h1 hc (by (omega)) (by exact head_once (by assumption) (by assumption))) lerf ?_)
         clear E a S; rintro a n0 w g3 b2 g4 S E
         replace hw := hw.le b2
         replace hc := hc.le b2
         replace h1 := h1.le b2
         replace a0 := b2.2 _ _ a0
         refine Qj E Y ?_
         clear E a; intro a E
         refine YO ?_
         exact Qa E Tryz.results88 Y ⟨_, Y, g3, (a2.trans (a1.trans (a4.trans b2))), (QX.eqL g4 (by (first | (rw [show (sd % 47).toNat = 30 from by omega]; rfl) | (rw [show (sd % 47).toNat = 30 from by omega]; simp [Un]; done)))), S⟩
        ·refine Qx ?_
         refine ZK (JZ (Qs (Za E Y (Tryz.isAgg32 _) (Tryz.sizeOf32 _) S.imm a0 fun _ B => Qn B Y ?_)))
         clear E a B; intro a E
         refine Qk (Qm E S Y Y Y (Gw hw hc h1 (by first | assumption | omega) (by first | assumption | omega) (by first | assumption | omega) (by first | assumption | omega) (by first | assumption | omega) (by first | assumption | omega) (by first | assumption | omega) (by first | assumption | omega)) lerf ?_)
         clear E a S; rintro a n1 w g5 b3 g6 S E
         replace hw := hw.le b3
         replace hc := hc.le b3
         replace h1 := h1.le b3
         replace a0 := b3.2 _ _ a0
         refine Qj E Y ?_
         clear E a; intro a E
         refine Jj ?_
         exact Qa E Tryz.results88 Y ⟨_, Y, g5, (a2.trans (a1.trans (a4.trans b3))), (QX.eqL g6 (by ((try clear S); (try clear E); first | rfl | (simp; done) | (simp_all; done) | grind [List.take_add_one]))), S⟩
       ·replace E := E.val (t := 54) Y a3
        replace E := E.val (t := 55) Y a3
        replace a3 := of_decide_eq_false a3
        refine Uj E Y Y Y Y Y fun a E => ?_
        refine Uj E Y Y Y Y Y fun a E => ?_
        refine Uj E Y Y Y Y Y fun a E => ?_
        refine Uj E Y Y Y Y Y fun a E => ?_
        refine Uj E Y Y Y Y Y fun a E => ?_
        refine Uj E Y Y Y Y Y fun a E => ?_
        refine Uj E Y Y Y Y Y fun a E => ?_
        refine Uj E Y Y Y Y Y fun a E => ?_
        refine Uj E Y Y Y Y Y fun a E => ?_
        refine QU E Y (fun w hC => (yf E Y Y)) ?_
        clear E a; intro a E
        refine JI (JH ?_)
        refine JZ ?_
        refine QF E Y Y ?_
        refine J_y (Za E Y (Tryz.isAgg32 _) (Tryz.sizeOf32 _) S.imm a0 fun _ B => Qn B Y ?_)
        clear E a B; intro a E
        refine Qk (Qm E S Y Y Y (Gw hw hc h1 (by first | assumption | omega) (by first | assumption | omega) (by first | assumption | omega) (by first | assumption | omega) (by first | assumption | omega) (by first | assumption | omega) (by first | assumption | omega) (by first | assumption | omega)) lerf ?_)
        clear E a S; rintro a n2 w g7 b4 g8 S E
        replace hw := hw.le b4
        replace hc := hc.le b4
        replace h1 := h1.le b4
        replace a0 := b4.2 _ _ a0
        refine Qj E Y ?_
        clear E a; intro a E
        refine Jj ?_
        exact Qa E Tryz.results88 Y ⟨_, Y, g7, (a2.trans (a1.trans b4)), (QX.eqL g8 (by ((try clear S); (try clear E); first | rfl | (simp; done) | (simp_all; done) | grind [List.take_add_one]))), S⟩
      ·refine Qs (QK E Y Y fun _ B => Qj B Y ?_)
       clear E a B; intro a E
       refine Qz ?_
       refine Ql E Y (fun g9 => ?_) (fun g9 => ?_)
       ·refine Qs (Qn E Y fun _ B => Qi B Y (JR _) fun _ D => Qb D Y Tryz.isAgg22 S.imm (Qq a0 Y) ?_)
        clear E a B D; intro a E
        refine Qk (Qm E S Y Y Y (zc h1 hc (by (first | omega | (simp; omega) | (simp; done) | (simp_all; omega) | grind))) lerf ?_)
        clear E a S; rintro a _ w n3 b5 ⟨n4, rfl, h0⟩ S E
        replace hw := hw.le b5
        replace hc := hc.le b5
        replace h1 := h1.le b5
        replace a0 := b5.2 _ _ a0
        refine Qg E Y Y fun _ B => Qg B Y Y ?_
        clear E a B; intro a E
        refine Qk (Qm E S Y Y Y (WY h0) lerf ?_)
        clear E a S; rintro a n5 w h2 b6 h3 S E
        replace hw := hw.le b6
        replace hc := hc.le b6
        replace h1 := h1.le b6
        replace a0 := b6.2 _ _ a0
        refine Qj E Y ?_
        clear E a; intro a E
        refine YO ?_
        exact Qa E Tryz.results88 Y ⟨_, Y, h2, (a2.trans (a1.trans (b5.trans b6))), (QX.eqL h3 (by (first | (rw [show (sd % 47).toNat = 32 from by omega]; rfl) | (rw [show (sd % 47).toNat = 32 from by omega]; simp [Un]; done)))), S⟩
       ·refine Qs (QK E Y Y fun _ B => Qj B Y ?_)
        clear E a B; intro a E
        refine Qz ?_
        refine Ql E Y (fun h4 => ?_) (fun h4 => ?_)
        ·refine Qs (Qn E Y fun _ B => Qi B Y (JR _) fun _ D => Qb D Y Tryz.isAgg22 S.imm (Qq a0 Y) ?_)
         clear E a B D; intro a E
         refine Qk (Qm E S Y Y Y (ju h1 hc (by (first | omega | (simp; omega) | (simp; done) | (simp_all; omega) | grind))) lerf ?_)
         clear E a S; rintro a n6 w h5 b7 h6 S E
         replace hw := hw.le b7
         replace hc := hc.le b7
         replace h1 := h1.le b7
         replace a0 := b7.2 _ _ a0
         refine Qj E Y ?_
         clear E a; intro a E
         refine YO ?_
         exact Qa E Tryz.results88 Y ⟨_, Y, h5, (a2.trans (a1.trans b7)), (QX.eqL h6 (by (first | (rw [show (sd % 47).toNat = 33 from by omega]; rfl) | (rw [show (sd % 47).toNat = 33 from by omega]; simp [Un]; done)))), S⟩
        ·refine Qs (QK E Y Y fun _ B => Qj B Y ?_)
         clear E a B; intro a E
         refine Qz ?_
         refine Ql E Y (fun h7 => ?_) (fun h7 => ?_)
         ·refine Qs (Qn E Y fun _ B => Qi B Y (Vk _) fun _ D => Jt (off := 6) (part := [.int .i64 kk, .int .i64 kn]) D Y (Tryz.isAgg30 _) (Tryz.sizeOf30 _) S.imm a0 Y Y fun _ F => Qi F Y (JR _) fun _ G => Qb G Y Tryz.isAgg22 S.imm (Qq a0 Y) ?_)
          clear E a B D F G; intro a E
          refine Qk (Qm E S Y Y Y (qU h1 hc (by omega) (by (first | omega | (simp; omega) | (simp; done) | (simp_all; omega) | grind))) lerf ?_)
          clear E a S; rintro a n7 w h8 b8 h9 S E
          replace hw := hw.le b8
          replace hc := hc.le b8
          replace h1 := h1.le b8
          replace a0 := b8.2 _ _ a0
          refine Qj E Y ?_
          clear E a; intro a E
          refine YO ?_
          exact Qa E Tryz.results88 Y ⟨_, Y, h8, (a2.trans (a1.trans b8)), (QX.eqL h9 (by (first | (rw [show (sd % 47).toNat = 34 from by omega]; rfl) | (rw [show (sd % 47).toNat = 34 from by omega]; simp [Un]; done)))), S⟩
         ·refine Qs (QK E Y Y fun _ B => Qj B Y ?_)
          clear E a B; intro a E
          refine Qz ?_
          refine Ql E Y (fun i0 => ?_) (fun i0 => ?_)
          ·refine Qs (Qn E Y fun _ B => Qi B Y (JR _) fun _ D => Qb D Y Tryz.isAgg22 S.imm (Qq a0 Y) ?_)
           clear E a B D; intro a E
           refine Qk (Yg (R := Vf 1 QB) (vs := [v1, cv]) (xs := [l, c]) (JE Jp) E S Y Vn Y Y Y (by intro u hu; simp only [List.mem_cons, List.not_mem_nil, or_false] at hu; rcases hu with rfl | rfl <;> first | exact Qy.one h1 | exact Qy.one hc | rfl) Y (Ve (R := Vf 1 QB) (Qy.row h1) (Ve (R := Vf 1 QB) (Qy.row hc) UE)) ?_)
           clear E a S; rintro a i1 w i2 b9 d6 S E
           replace d6 : Zf i2 i1 [l, c] := d6
           replace hw := hw.le b9
           replace hc := hc.le b9
           replace h1 := h1.le b9
           replace a0 := b9.2 _ _ a0
           refine Qk (Qm E S Y Y Y (impl_UnionSeq d6 (by first | assumption | omega | (rw [GU]; omega) | exact Nat.le_trans (Zl _ _) (by omega) | exact ZR (by omega) (by omega) (by omega) (by omega) | exact Zw (by omega) | (simp; done) | (simp; omega)) (by first | assumption | omega | (rw [GU]; omega) | exact Nat.le_trans (Zl _ _) (by omega) | exact ZR (by omega) (by omega) (by omega) (by omega) | exact Zw (by omega) | (simp; done) | (simp; omega))) lerf ?_)
           clear E a S; rintro a n8 w i3 c0 i4 S E
           replace hw := hw.le c0
           replace hc := hc.le c0
           replace h1 := h1.le c0
           replace a0 := c0.2 _ _ a0
           refine Qj E Y ?_
           clear E a; intro a E
           refine YO ?_
           exact Qa E Tryz.results88 Y ⟨_, Y, i3, (a2.trans (a1.trans (b9.trans c0))), (QX.eqL i4 (by (first | (rw [show (sd % 47).toNat = 35 from by omega]; rfl) | (rw [show (sd % 47).toNat = 35 from by omega]; simp [Un]; done)))), S⟩
          ·refine Qs (QK E Y Y fun _ B => Qj B Y ?_)
           clear E a B; intro a E
           refine Qz ?_
           refine Ql E Y (fun i5 => ?_) (fun i5 => ?_)
           ·refine Qs (QD 2 E Y ?_)
            clear E a; intro a E
            refine Qk (Qm E S Y Y Y (impl_ChunkSeq h1 (by first | omega | (simp; done) | (simp; omega)) (by first | omega | (simp; done) | (simp; omega))) lerf ?_)
            clear E a S; rintro a _ w n9 c1 ⟨o0, rfl, i6⟩ S E
            replace hw := hw.le c1
            replace hc := hc.le c1
            replace h1 := h1.le c1
            replace a0 := c1.2 _ _ a0
            refine Qg E Y Y fun _ B => Qg B Y Y ?_
            clear E a B; intro a E
            refine Qk (Qm E S Y Y Y (Uu i6 (by first | assumption | omega | (rw [GU]; omega) | exact Nat.le_trans (Zl _ _) (by omega) | exact ZR (by omega) (by omega) (by omega) (by omega) | exact Zw (by omega) | (simp; done) | (simp; omega))) lerf ?_)
            clear E a S; rintro a o1 w i7 c2 i8 S E
            replace hw := hw.le c2
            replace hc := hc.le c2
            replace h1 := h1.le c2
            replace a0 := c2.2 _ _ a0
            refine Qj E Y ?_
            clear E a; intro a E
            refine YO ?_
            exact Qa E Tryz.results88 Y ⟨_, Y, i7, (a2.trans (a1.trans (c1.trans c2))), (QX.eqL i8 (by (first | (rw [show (sd % 47).toNat = 39 from by omega]; rfl) | (rw [show (sd % 47).toNat = 39 from by omega]; simp [Un]; done)))), S⟩
           ·refine Qs (QK E Y Y fun _ B => Qj B Y ?_)
            clear E a B; intro a E
            refine Qz ?_
            refine Ql E Y (fun i9 => ?_) (fun i9 => ?_)
            ·refine Qs (Qn E Y fun _ B => Qi B Y (Vk _) fun _ D => Jt (off := 6) (part := [.int .i64 kk, .int .i64 kn]) D Y (Tryz.isAgg30 _) (Tryz.sizeOf30 _) S.imm a0 Y Y ?_)
             clear E a B D; intro a E
             refine Qk (Qm E S Y Y Y (GN h1 (by omega) (by (first | omega | (simp; omega) | (simp; done) | (simp_all; omega) | grind))) lerf ?_)
             clear E a S; rintro a o2 w o3 c3 j0 S E
             replace hw := hw.le c3
             replace hc := hc.le c3
             replace h1 := h1.le c3
             replace a0 := c3.2 _ _ a0
             refine Qk (Qm E S Y Y Y (WX j0 (by first | assumption | omega | (rw [GU]; omega) | exact Nat.le_trans (Zl _ _) (by omega) | exact ZR (by omega) (by omega) (by omega) (by omega) | exact Zw (by omega) | (simp; done) | (simp; omega))) lerf ?_)
             clear E a S; rintro a o4 w j1 c4 j2 S E
             replace hw := hw.le c4
             replace hc := hc.le c4
             replace h1 := h1.le c4
             replace a0 := c4.2 _ _ a0
             refine Qj E Y ?_
             clear E a; intro a E
             refine YO ?_
             exact Qa E Tryz.results88 Y ⟨_, Y, j1, (a2.trans (a1.trans (c3.trans c4))), (QX.eqL j2 (by (first | (rw [show (sd % 47).toNat = 40 from by omega]; rfl) | (rw [show (sd % 47).toNat = 40 from by omega]; simp [Un]; done)))), S⟩
            ·refine Qs (QK E Y Y fun _ B => Qj B Y ?_)
             clear E a B; intro a E
             refine Qz ?_
             refine Ql E Y (fun j3 => ?_) (fun j3 => ?_)
             ·refine Qs (QD 2 E Y fun _ B => Qp (m := ((na + 1 : Nat) : Int)) B Y Y ?_)
              clear E a B; intro a E
              refine Qk (Qm E S Y Y Y (yX h1 (by first | omega | (simp; done) | (simp; omega)) (by first | omega | (simp; done) | (simp; omega)) (by first | omega | (simp; done) | (simp; omega))) lerf ?_)
              clear E a S; rintro a _ w o5 c5 ⟨o6, rfl, j4⟩ S E
              replace hw := hw.le c5
              replace hc := hc.le c5
              replace h1 := h1.le c5
              replace a0 := c5.2 _ _ a0
              refine Qg E Y Y fun _ B => Qg B Y Y ?_
              clear E a B; intro a E
              refine Qk (Qm E S Y Y Y (Uu j4 (by first | assumption | omega | (rw [GU]; omega) | exact Nat.le_trans (Zl _ _) (by omega) | exact ZR (by omega) (by omega) (by omega) (by omega) | exact Zw (by omega) | (simp; done) | (simp; omega))) lerf ?_)
              clear E a S; rintro a o7 w j5 c6 j6 S E
              replace hw := hw.le c6
              replace hc := hc.le c6
              replace h1 := h1.le c6
              replace a0 := c6.2 _ _ a0
              refine Qj E Y ?_
              clear E a; intro a E
              refine YO ?_
              exact Qa E Tryz.results88 Y ⟨_, Y, j5, (a2.trans (a1.trans (c5.trans c6))), (QX.eqL j6 (by (first | (rw [show (sd % 47).toNat = 41 from by omega]; rfl) | (rw [show (sd % 47).toNat = 41 from by omega]; simp [Un]; done)))), S⟩
             ·refine Qs (QK E Y Y fun _ B => Qj B Y ?_)
              clear E a B; intro a E
              refine Qz ?_
              refine Ql E Y (fun j7 => ?_) (fun j7 => ?_)
              ·refine Qs (QD 2 E Y fun _ B => Qp (m := ((na + 1 : Nat) : Int)) B Y Y fun _ D => Qn D Y fun _ F => Qp (m := ((nb + 1 : Nat) : Int)) F Y Y ?_)
               clear E a B D F; intro a E
               refine Qk (Qm E S Y Y Y (jC h1 (by first | omega | (simp; done) | (simp; omega)) (by first | omega | (simp; done) | (simp; omega)) (by first | omega | (simp; done) | (simp; omega)) (by first | omega | (simp; done) | (simp; omega)) (by first | omega | (simp; done) | (simp; omega))) lerf ?_)
               clear E a S; rintro a _ w o8 c7 ⟨o9, rfl, j8⟩ S E
               replace hw := hw.le c7
               replace hc := hc.le c7
               replace h1 := h1.le c7
               replace a0 := c7.2 _ _ a0
               refine Qg E Y Y fun _ B => Qg B Y Y ?_
               clear E a B; intro a E
               refine Qk (Qm E S Y Y Y (Uu j8 (by first | assumption | omega | (rw [GU]; omega) | exact Nat.le_trans (Zl _ _) (by omega) | exact ZR (by omega) (by omega) (by omega) (by omega) | exact Zw (by omega) | (simp; done) | (simp; omega))) lerf ?_)
               clear E a S; rintro a p0 w j9 c8 k0 S E
               replace hw := hw.le c8
               replace hc := hc.le c8
               replace h1 := h1.le c8
               replace a0 := c8.2 _ _ a0
               refine Qj E Y ?_
               clear E a; intro a E
               refine YO ?_
               exact Qa E Tryz.results88 Y ⟨_, Y, j9, (a2.trans (a1.trans (c7.trans c8))), (QX.eqL k0 (by (first | (rw [show (sd % 47).toNat = 42 from by omega]; rfl) | (rw [show (sd % 47).toNat = 42 from by omega]; simp [Un]; done)))), S⟩
              ·refine Qs (QK E Y Y fun _ B => Qj B Y ?_)
               clear E a B; intro a E
               refine Qz ?_
               refine Ql E Y (fun k1 => ?_) (fun k1 => ?_)
               ·refine Qs (Qn E Y ?_)
                clear E a; intro a E
                refine Qk (Qm E S Y Y Y (vd h1 (by (first | omega | (simp; omega) | (simp; done) | (simp_all; omega) | grind))) lerf ?_)
                clear E a S; rintro a p1 w k2 c9 k3 S E
                replace hw := hw.le c9
                replace hc := hc.le c9
                replace h1 := h1.le c9
                replace a0 := c9.2 _ _ a0
                refine Qj E Y ?_
                clear E a; intro a E
                refine YO ?_
                exact Qa E Tryz.results88 Y ⟨_, Y, k2, (a2.trans (a1.trans c9)), (QX.eqL k3 (by (first | (rw [show (sd % 47).toNat = 43 from by omega]; rfl) | (rw [show (sd % 47).toNat = 43 from by omega]; simp [Un]; done)))), S⟩
               ·refine Qs (QK E Y Y fun _ B => Qj B Y ?_)
                clear E a B; intro a E
                refine Qz ?_
                refine Ql E Y (fun k4 => ?_) (fun k4 => ?_)
                ·refine Qs (Qn E Y fun _ B => Qi B Y (JR _) fun _ D => Qb D Y Tryz.isAgg22 S.imm (Qq a0 Y) ?_)
                 clear E a B D; intro a E
                 refine Qk (Yg (R := Vf 1 QB) (vs := [v1, cv]) (xs := [l, c]) (JE Jp) E S Y Vn Y Y Y (by intro u hu; simp only [List.mem_cons, List.not_mem_nil, or_false] at hu; rcases hu with rfl | rfl <;> first | exact Qy.one h1 | exact Qy.one hc | rfl) Y (Ve (R := Vf 1 QB) (Qy.row h1) (Ve (R := Vf 1 QB) (Qy.row hc) UE)) ?_)
                 clear E a S; rintro a k5 w k6 d0 d7 S E
                 replace d7 : Zf k6 k5 [l, c] := d7
                 replace hw := hw.le d0
                 replace hc := hc.le d0
                 replace h1 := h1.le d0
                 replace a0 := d0.2 _ _ a0
                 refine Qk (Qm E S Y Y Y (jH d7 (by first | assumption | omega | (rw [GU]; omega) | exact Nat.le_trans (Zl _ _) (by omega) | exact ZR (by omega) (by omega) (by omega) (by omega) | exact Zw (by omega) | (simp; done) | (simp; omega)) (by first | assumption | omega | (rw [GU]; omega) | exact Nat.le_trans (Zl _ _) (by omega) | exact ZR (by omega) (by omega) (by omega) (by omega) | exact Zw (by omega) | (simp; done) | (simp; omega))) lerf ?_)
                 clear E a S; rintro a p2 w k7 d1 k8 S E
                 replace hw := hw.le d1
                 replace hc := hc.le d1
                 replace h1 := h1.le d1
                 replace a0 := d1.2 _ _ a0
                 refine Qj E Y ?_
                 clear E a; intro a E
                 refine YO ?_
                 exact Qa E Tryz.results88 Y ⟨_, Y, k7, (a2.trans (a1.trans (d0.trans d1))), (QX.eqL k8 (by (first | (rw [show (sd % 47).toNat = 44 from by omega]; rfl) | (rw [show (sd % 47).toNat = 44 from by omega]; simp [Un]; done)))), S⟩
                ·refine Qs (QK E Y Y fun _ B => Qj B Y ?_)
                 clear E a B; intro a E
                 refine Qz ?_
                 refine Ql E Y (fun k9 => ?_) (fun k9 => ?_)
                 ·refine Qs (Qn E Y fun _ B => Qi B Y (JR _) fun _ D => Qb D Y Tryz.isAgg22 S.imm (Qq a0 Y) ?_)
                  clear E a B D; intro a E
                  refine Qk (Yg (R := Vf 1 QB) (vs := [v1, cv]) (xs := [l, c]) (JE Jp) E S Y Vn Y Y Y (by intro u hu; simp only [List.mem_cons, List.not_mem_nil, or_false] at hu; rcases hu with rfl | rfl <;> first | exact Qy.one h1 | exact Qy.one hc | rfl) Y (Ve (R := Vf 1 QB) (Qy.row h1) (Ve (R := Vf 1 QB) (Qy.row hc) UE)) ?_)
                  clear E a S; rintro a l0 w l1 d2 d8 S E
                  replace d8 : Zf l1 l0 [l, c] := d8
                  replace hw := hw.le d2
                  replace hc := hc.le d2
                  replace h1 := h1.le d2
                  replace a0 := d2.2 _ _ a0
                  refine Qk (Qm E S Y Y Y (qX d8 (by first | assumption | omega | (simp; done) | (simp; omega)) (by first | assumption | omega | (intro x hx; simp only [List.mem_cons, List.not_mem_nil, or_false] at hx; rcases hx with rfl | rfl <;> omega) | (intro x hx; simp only [List.mem_cons, List.not_mem_nil, or_false] at hx; rcases hx with rfl | rfl <;> simp; done))) lerf ?_)
                  clear E a S; rintro a p3 w p4 d3 l2 S E
                  replace hw := hw.le d3
                  replace hc := hc.le d3
                  replace h1 := h1.le d3
                  replace a0 := d3.2 _ _ a0
                  refine Qk (Qm E S Y Y Y (jm l2 (by first | omega | exact meet2_len (by omega) (by omega) | (first | omega | (simp; omega) | (simp; done) | (simp_all; omega) | grind))) lerf ?_)
                  clear E a S; rintro a p5 w l3 d4 l4 S E
                  replace hw := hw.le d4
                  replace hc := hc.le d4
                  replace h1 := h1.le d4
                  replace a0 := d4.2 _ _ a0
                  refine Qj E Y ?_
                  clear E a; intro a E
                  refine YO ?_
                  exact Qa E Tryz.results88 Y ⟨_, Y, l3, (a2.trans (a1.trans (d2.trans (d3.trans d4)))), (QX.eqL l4 (by (first | (rw [show (sd % 47).toNat = 45 from by omega]; rfl) | (rw [show (sd % 47).toNat = 45 from by omega]; simp [Un]; done)))), S⟩
                 ·refine J_y (Za E Y (Tryz.isAgg32 _) (Tryz.sizeOf32 _) S.imm a0 fun _ B => Qn B Y ?_)
                  clear E a B; intro a E
                  refine Qk (Qm E S Y Y Y (Gw hw hc h1 (by first | assumption | omega) (by first | assumption | omega) (by first | assumption | omega) (by first | assumption | omega) (by first | assumption | omega) (by first | assumption | omega) (by first | assumption | omega) (by first | assumption | omega)) lerf ?_)
                  clear E a S; rintro a p6 w l5 l6 l7 S E
                  refine Qj E Y ?_
                  clear E a; intro a E
                  refine Jj ?_
                  exact Qa E Tryz.results88 Y ⟨_, Y, l5, (a2.trans (a1.trans l6)), (QX.eqL l7 (by ((try clear S); (try clear E); first | rfl | (simp; done) | (simp_all; done) | grind [List.take_add_one]))), S⟩
theorem laws_passing {M : Hp} {sd sn sm pk pn kk kn : Int} {wv cv : Value} {pl c : List Int} (hw : Qy M wv pl) (hc : Qy M cv c) {v1 : Value} {l : List Int} (h1 : Qy M v1 l) (gd : -9223372036854775808 ≤ sd ∧ sd ≤ 9223372036854775807) (gn : -9223372036854775808 ≤ sn ∧ sn ≤ 9223372036854775807) (gm : -9223372036854775808 ≤ sm ∧ sm ≤ 9223372036854775807) (gpn : -9223372036854775808 ≤ pn ∧ pn ≤ 9223372036854775807) (gkn : -9223372036854775808 ≤ kn ∧ kn ≤ 9223372036854775807) (hb : l.length ≤ 10000) (hcb : c.length ≤ 10000) (hpb : pl.length ≤ 10000)  :
  Pu Tryz.prog (.func (.func 12) #[] #[]) M [.agg #[.int .i64 sd, .int .i64 sn, .int .i64 sm, .int .i64 pk, .int .i64 pn, wv, .int .i64 kk, .int .i64 kn, cv], v1] (fun r M' => Qy M' r (Un (sd % 47).toNat ((sn % 12).toNat) ((sm % 12).toNat) sn sm pk pn pl kk kn c l)) := by
 refine Qd Tryz.func12 Y Tryz.ntmps12 Y Tryz.call12 ?_
 intro a w M1 H hM1 S E
 replace hw := hw.le hM1
 replace hc := hc.le hM1
 replace h1 := h1.le hM1
 have bw := hw.bound
 have bc := hc.bound
 have b1 := h1.bound
 have hdb : (sd % 47).toNat < 47 := by omega
 have hab : (sn % 12).toNat < 12 := by omega
 have hbb : (sm % 12).toNat < 12 := by omega
 refine Qs ?_
 refine Qk (QA (cs := #[.int .i64 sd, .int .i64 sn, .int .i64 sm, .int .i64 pk, .int .i64 pn, wv, .int .i64 kk, .int .i64 kn, cv]) E S Y Y Y ?_)
 clear E a S; rintro a w j7 E S
 obtain ⟨d0, a4, a0, S⟩ := S.freezeB
 replace hw := hw.le a4
 replace hc := hc.le a4
 replace h1 := h1.le a4
 refine Qj E Y ?_
 clear E a; intro a E
 refine ZJ ?_
 have hb_1k2 := a0
 replace S := S.mono_heap (w' := World.drew _) rfl
 refine Jb (C := fun x w => agree d0 w) (bf := (fun i => [])) [0, 1, 3, 4, 6, 7] [0, 1, 3, 4, 2, 5, 6, 7] Tryz.mixed (by kernel_rfl) (fun x hq => S.imm) ?_
 refine QU E Y (fun w hC => (Yt E Y (jg _))) fun _ B => QU B Y (fun w hC => (QQ B Y Tryz.isAgg3 hC (Qq hb_1k2 Y))) fun _ D => QU D Y (fun w hC => (Yt D Y (jf _))) fun _ F => QU F Y (fun w hC => (QQ F Y Tryz.isAgg3 hC (Qq hb_1k2 Y))) ?_
 clear E a B D F; intro a E
 refine ZP Y Y Y (Qm E S Y Y Y (ZM (by omega) (by omega)) lerf ?_)
 clear E a S; rintro a _ w j8 a1 rfl S E
 replace hw := hw.le a1
 replace hc := hc.le a1
 replace h1 := h1.le a1
 replace a0 := a1.2 _ _ a0
 refine ⟨fun x hq hb => (Qu a1 S.imm), ?_⟩
 refine ZP Y Y Y (Qm E S Y Y Y (ZM (by omega) (by omega)) lerf ?_)
 clear E a S; rintro a _ w j9 a2 rfl S E
 replace hw := hw.le a2
 replace hc := hc.le a2
 replace h1 := h1.le a2
 replace a0 := a2.2 _ _ a0
 refine ⟨fun x hq hb => (Qu (a1.trans a2) S.imm), ?_⟩
 refine QU E Y (fun w hC => (Jx E Y)) fun _ B => QU B Y (fun w hC => (Jx B Y)) ?_
 clear E a B; intro a E
 refine JI (JH ?_)
 refine JZ (UK (Qi E Y (WH _) fun _ B => Qb B Y Tryz.isAgg3 S.imm (Qq a0 Y) ?_))
 clear E a B; intro a E
 refine Qk (Qm E S Y Y Y (ZM (by omega) (by omega)) lerf ?_)
 clear E a S; rintro a _ w k0 a3 rfl S E
 replace hw := hw.le a3
 replace hc := hc.le a3
 replace h1 := h1.le a3
 replace a0 := a3.2 _ _ a0
 refine J_w (QK E Y Y fun _ B => Qj B Y ?_)
 clear E a B; intro a E
 refine Qz ?_
 refine Ql E Y (fun d1 => ?_) (fun d1 => ?_)
 ·refine Qs (Qn E Y fun _ B => Qi B Y (Vd _) fun _ D => Jt (off := 3) (part := [.int .i64 pk, .int .i64 pn, wv]) D Y (Tryz.isAgg27 _) (Tryz.sizeOf27 _) S.imm a0 Y Y ?_)
  clear E a B D; intro a E
  refine Qk (Qm E S Y Y Y (vg h1 hw (by omega) (by (omega))) lerf ?_)
  clear E a S; rintro a k1 w d2 a5 d3 S E
  replace hw := hw.le a5
  replace hc := hc.le a5
  replace h1 := h1.le a5
  replace a0 := a5.2 _ _ a0
  refine Qj E Y ?_
  clear E a; intro a E
  refine YO ?_
  exact Qa E Tryz.results12 Y ⟨_, Y, d2, (a4.trans (a1.trans (a2.trans (a3.trans a5)))), (QX.eqL d3 (by ((rw [show (sd % 47).toNat = 0 from by omega]; rfl)))), S⟩
 ·refine Qs (QK E Y Y fun _ B => Qj B Y ?_)
  clear E a B; intro a E
  refine Qz ?_
  refine Ql E Y (fun d4 => ?_) (fun d4 => ?_)
  ·refine Qs (Qn E Y fun _ B => Qi B Y (Vd _) fun _ D => Jt (off := 3) (part := [.int .i64 pk, .int .i64 pn, wv]) D Y (Tryz.isAgg27 _) (Tryz.sizeOf27 _) S.imm a0 Y Y ?_)
   clear E a B D; intro a E
   refine Qk (Qm E S Y Y Y (vc h1 hw (by omega) (by (omega))) lerf ?_)
   clear E a S; rintro a k2 w d5 a6 d6 S E
   replace hw := hw.le a6
   replace hc := hc.le a6
   replace h1 := h1.le a6
   replace a0 := a6.2 _ _ a0
   refine Qj E Y ?_
   clear E a; intro a E
   refine YO ?_
   exact Qa E Tryz.results12 Y ⟨_, Y, d5, (a4.trans (a1.trans (a2.trans (a3.trans a6)))), (QX.eqL d6 (by ((rw [show (sd % 47).toNat = 1 from by omega]; rfl)))), S⟩
  ·refine Qs (QK E Y Y fun _ B => Qj B Y ?_)
   clear E a B; intro a E
   refine Qz ?_
   refine Ql E Y (fun d7 => ?_) (fun d7 => ?_)
   ·refine Qs (Qn E Y fun _ B => Qi B Y (Vk _) fun _ D => Jt (off := 6) (part := [.int .i64 kk, .int .i64 kn]) D Y (Tryz.isAgg30 _) (Tryz.sizeOf30 _) S.imm a0 Y Y ?_)
    clear E a B D; intro a E
    refine Qk (Qm E S Y Y Y (impl_MapSeq h1 (by omega) (by (omega))) lerf ?_)
    clear E a S; rintro a k3 w d8 a7 d9 S E
    replace hw := hw.le a7
    replace hc := hc.le a7
    replace h1 := h1.le a7
    replace a0 := a7.2 _ _ a0
    refine Qj E Y ?_
    clear E a; intro a E
    refine YO ?_
    exact Qa E Tryz.results12 Y ⟨_, Y, d8, (a4.trans (a1.trans (a2.trans (a3.trans a7)))), (QX.eqL d9 (by ((rw [show (sd % 47).toNat = 2 from by omega]; rfl)))), S⟩
   ·refine Qs (QK E Y Y fun _ B => Qj B Y ?_)
    clear E a B; intro a E
    refine Qz ?_
    refine Ql E Y (fun e0 => ?_) (fun e0 => ?_)
    ·refine Qs (Qn E Y fun _ B => Qi B Y (Vd _) fun _ D => Jt (off := 3) (part := [.int .i64 pk, .int .i64 pn, wv]) D Y (Tryz.isAgg27 _) (Tryz.sizeOf27 _) S.imm a0 Y Y fun _ F => Qi F Y (Vk _) fun _ G => Jt (off := 6) (part := [.int .i64 kk, .int .i64 kn]) G Y (Tryz.isAgg30 _) (Tryz.sizeOf30 _) S.imm a0 Y Y ?_)
     clear E a B D F G; intro a E
     refine Qk (Qm E S Y Y Y (qY h1 hw (by omega) (by omega) (by (omega))) lerf ?_)
     clear E a S; rintro a k4 w e1 a8 e2 S E
     replace hw := hw.le a8
     replace hc := hc.le a8
     replace h1 := h1.le a8
     replace a0 := a8.2 _ _ a0
     refine Qj E Y ?_
     clear E a; intro a E
     refine YO ?_
     exact Qa E Tryz.results12 Y ⟨_, Y, e1, (a4.trans (a1.trans (a2.trans (a3.trans a8)))), (QX.eqL e2 (by ((rw [show (sd % 47).toNat = 3 from by omega]; rfl)))), S⟩
    ·refine Qs (QK E Y Y fun _ B => Qj B Y ?_)
     clear E a B; intro a E
     refine Qz ?_
     refine Ql E Y (fun e3 => ?_) (fun e3 => ?_)
     ·refine Qs (Qn E Y fun _ B => Qi B Y (Vk _) fun _ D => Jt (off := 6) (part := [.int .i64 kk, .int .i64 kn]) D Y (Tryz.isAgg30 _) (Tryz.sizeOf30 _) S.imm a0 Y Y ?_)
      clear E a B D; intro a E
      refine Qk (Qm E S Y Y Y (jI h1 (by omega) (by (omega))) lerf ?_)
      clear E a S; rintro a k5 w e4 a9 e5 S E
      replace hw := hw.le a9
      replace hc := hc.le a9
      replace h1 := h1.le a9
      replace a0 := a9.2 _ _ a0
      refine Qj E Y ?_
      clear E a; intro a E
      refine YO ?_
      exact Qa E Tryz.results12 Y ⟨_, Y, e4, (a4.trans (a1.trans (a2.trans (a3.trans a9)))), (QX.eqL e5 (by ((rw [show (sd % 47).toNat = 4 from by omega]; rfl)))), S⟩
     ·refine Qs (QK E Y Y fun _ B => Qj B Y ?_)
      clear E a B; intro a E
      refine Qz ?_
      refine Ql E Y (fun e6 => ?_) (fun e6 => ?_)
      ·refine Qs (Qn E Y ?_)
       clear E a; intro a E
       refine Qk (Qm E S Y Y Y (impl_UniqSeq h1 (by (omega))) lerf ?_)
       clear E a S; rintro a k6 w e7 b0 e8 S E
       replace hw := hw.le b0
       replace hc := hc.le b0
       replace h1 := h1.le b0
       replace a0 := b0.2 _ _ a0
       refine Qj E Y ?_
       clear E a; intro a E
       refine YO ?_
       exact Qa E Tryz.results12 Y ⟨_, Y, e7, (a4.trans (a1.trans (a2.trans (a3.trans b0)))), (QX.eqL e8 (by (rw [show (sd % 47).toNat = 5 from by omega, uqS_id]; rfl))), S⟩
      ·refine Qs (QK E Y Y fun _ B => Qj B Y ?_)
       clear E a B; intro a E
       refine Qz ?_
       refine Ql E Y (fun e9 => ?_) (fun e9 => ?_)
       ·refine Qs (Qn E Y fun _ B => Qi B Y (Vk _) fun _ D => Jt (off := 6) (part := [.int .i64 kk, .int .i64 kn]) D Y (Tryz.isAgg30 _) (Tryz.sizeOf30 _) S.imm a0 Y Y ?_)
        clear E a B D; intro a E
        refine Qk (Qm E S Y Y Y (yY h1 (by omega) (by (omega))) lerf ?_)
        clear E a S; rintro a k7 w f0 b2 f1 S E
        replace hw := hw.le b2
        replace hc := hc.le b2
        replace h1 := h1.le b2
        replace a0 := b2.2 _ _ a0
        refine Qj E Y ?_
        clear E a; intro a E
        refine YO ?_
        exact Qa E Tryz.results12 Y ⟨_, Y, f0, (a4.trans (a1.trans (a2.trans (a3.trans b2)))), (QX.eqL f1 (by ((rw [show (sd % 47).toNat = 6 from by omega]; rfl)))), S⟩
       ·refine Qs (QK E Y Y fun _ B => Qj B Y ?_)
        clear E a B; intro a E
        refine Qz ?_
        refine Ql E Y (fun f2 => ?_) (fun f2 => ?_)
        ·refine Qs (Qn E Y ?_)
         clear E a; intro a E
         refine Qk (Qm E S Y Y Y (jD h1 (by (omega))) lerf ?_)
         clear E a S; rintro a k8 w f3 b3 f4 S E
         replace hw := hw.le b3
         replace hc := hc.le b3
         replace h1 := h1.le b3
         replace a0 := b3.2 _ _ a0
         refine Qj E Y ?_
         clear E a; intro a E
         refine YO ?_
         exact Qa E Tryz.results12 Y ⟨_, Y, f3, (a4.trans (a1.trans (a2.trans (a3.trans b3)))), (QX.eqL f4 (by ((rw [show (sd % 47).toNat = 11 from by omega]; rfl)))), S⟩
        ·refine Qs (QK E Y Y fun _ B => Qj B Y ?_)
         clear E a B; intro a E
         refine Qz ?_
         refine Ql E Y (fun f5 => ?_) (fun f5 => ?_)
         ·refine Qs (QD 2 E Y ?_)
          clear E a; intro a E
          refine Qk (Qm E S Y Y Y (impl_TakeSeq h1 (by (omega)) (by omega)) lerf ?_)
          clear E a S; rintro a _ w k9 b4 ⟨l0, rfl, f6⟩ S E
          replace hw := hw.le b4
          replace hc := hc.le b4
          replace h1 := h1.le b4
          replace a0 := b4.2 _ _ a0
          refine Qg E Y Y fun _ B => Qg B Y Y ?_
          clear E a B; intro a E
          refine Qk (Qm E S Y Y Y (Yx f6) lerf ?_)
          clear E a S; rintro a l1 w f7 b5 f8 S E
          replace hw := hw.le b5
          replace hc := hc.le b5
          replace h1 := h1.le b5
          replace a0 := b5.2 _ _ a0
          refine Qj E Y ?_
          clear E a; intro a E
          refine YO ?_
          exact Qa E Tryz.results12 Y ⟨_, Y, f7, (a4.trans (a1.trans (a2.trans (a3.trans (b4.trans b5))))), (QX.eqL f8 (by ((rw [show (sd % 47).toNat = 12 from by omega]; rfl)))), S⟩
         ·refine Qs (QK E Y Y fun _ B => Qj B Y ?_)
          clear E a B; intro a E
          refine Qz ?_
          refine Ql E Y (fun f9 => ?_) (fun f9 => ?_)
          ·refine Qs (QD 2 E Y ?_)
           clear E a; intro a E
           refine Qk (Qm E S Y Y Y (impl_DropSeq h1 (by (omega)) (by omega)) lerf ?_)
           clear E a S; rintro a _ w l2 b6 ⟨l3, rfl, g0⟩ S E
           replace hw := hw.le b6
           replace hc := hc.le b6
           replace h1 := h1.le b6
           replace a0 := b6.2 _ _ a0
           refine Qg E Y Y fun _ B => Qg B Y Y ?_
           clear E a B; intro a E
           refine Qk (Qm E S Y Y Y (Yx g0) lerf ?_)
           clear E a S; rintro a l4 w g1 b7 g2 S E
           replace hw := hw.le b7
           replace hc := hc.le b7
           replace h1 := h1.le b7
           replace a0 := b7.2 _ _ a0
           refine Qj E Y ?_
           clear E a; intro a E
           refine YO ?_
           exact Qa E Tryz.results12 Y ⟨_, Y, g1, (a4.trans (a1.trans (a2.trans (a3.trans (b6.trans b7))))), (QX.eqL g2 (by ((rw [show (sd % 47).toNat = 13 from by omega]; rfl)))), S⟩
          ·refine Qs (QK E Y Y fun _ B => Qj B Y ?_)
           clear E a B; intro a E
           refine Qz ?_
           refine Ql E Y (fun g3 => ?_) (fun g3 => ?_)
           ·refine Qs (QD 2 E Y ?_)
            clear E a; intro a E
            refine Qk (Qm E S Y Y Y (za h1 (by (omega)) (by omega)) lerf ?_)
            clear E a S; rintro a _ w l5 b8 ⟨l6, rfl, g4⟩ S E
            replace hw := hw.le b8
            replace hc := hc.le b8
            replace h1 := h1.le b8
            replace a0 := b8.2 _ _ a0
            refine Qg E Y Y fun _ B => Qg B Y Y ?_
            clear E a B; intro a E
            refine Qk (Qm E S Y Y Y (Yx g4) lerf ?_)
            clear E a S; rintro a l7 w g5 b9 g6 S E
            replace hw := hw.le b9
            replace hc := hc.le b9
            replace h1 := h1.le b9
            replace a0 := b9.2 _ _ a0
            refine Qj E Y ?_
            clear E a; intro a E
            refine YO ?_
            exact Qa E Tryz.results12 Y ⟨_, Y, g5, (a4.trans (a1.trans (a2.trans (a3.trans (b8.trans b9))))), (QX.eqL g6 (by ((rw [show (sd % 47).toNat = 14 from by omega]; rfl)))), S⟩
           ·refine Qs (QK E Y Y fun _ B => Qj B Y ?_)
            clear E a B; intro a E
            refine Qz ?_
            refine Ql E Y (fun g7 => ?_) (fun g7 => ?_)
            ·refine Qs (Qn E Y fun _ B => Qi B Y (Vd _) fun _ D => Jt (off := 3) (part := [.int .i64 pk, .int .i64 pn, wv]) D Y (Tryz.isAgg27 _) (Tryz.sizeOf27 _) S.imm a0 Y Y ?_)
             clear E a B D; intro a E
             refine Qk (Qm E S Y Y Y (qW h1 hw (by omega) (by (omega))) lerf ?_)
             clear E a S; rintro a l8 w g8 c0 g9 S E
             replace hw := hw.le c0
             replace hc := hc.le c0
             replace h1 := h1.le c0
             replace a0 := c0.2 _ _ a0
             refine Qj E Y ?_
             clear E a; intro a E
             refine YO ?_
             exact Qa E Tryz.results12 Y ⟨_, Y, g8, (a4.trans (a1.trans (a2.trans (a3.trans c0)))), (QX.eqL g9 (by ((rw [show (sd % 47).toNat = 15 from by omega]; rfl)))), S⟩
            ·refine Qs (QK E Y Y fun _ B => Qj B Y ?_)
             clear E a B; intro a E
             refine Qz ?_
             refine Ql E Y (fun h0 => ?_) (fun h0 => ?_)
             ·refine Qs (Qn E Y fun _ B => Qi B Y (Vd _) fun _ D => Jt (off := 3) (part := [.int .i64 pk, .int .i64 pn, wv]) D Y (Tryz.isAgg27 _) (Tryz.sizeOf27 _) S.imm a0 Y Y ?_)
              clear E a B D; intro a E
              refine Qk (Qm E S Y Y Y (qZ h1 hw (by omega) (by (omega))) lerf ?_)
              clear E a S; rintro a l9 w h2 c1 h3 S E
              replace hw := hw.le c1
              replace hc := hc.le c1
              replace h1 := h1.le c1
              replace a0 := c1.2 _ _ a0
              refine Qj E Y ?_
              clear E a; intro a E
              refine YO ?_
              exact Qa E Tryz.results12 Y ⟨_, Y, h2, (a4.trans (a1.trans (a2.trans (a3.trans c1)))), (QX.eqL h3 (by ((rw [show (sd % 47).toNat = 16 from by omega]; rfl)))), S⟩
             ·refine Qs (QK E Y Y fun _ B => Qj B Y ?_)
              clear E a B; intro a E
              refine Qz ?_
              refine Ql E Y (fun h4 => ?_) (fun h4 => ?_)
              ·refine Qs (Qn E Y fun _ B => Qi B Y (Vd _) fun _ D => Jt (off := 3) (part := [.int .i64 pk, .int .i64 pn, wv]) D Y (Tryz.isAgg27 _) (Tryz.sizeOf27 _) S.imm a0 Y Y ?_)
               clear E a B D; intro a E
               refine Qk (Qm E S Y Y Y (Ww h1 hw (by omega) (by (omega))) lerf ?_)
               clear E a S; rintro a m0 w h5 c2 h6 S E
               replace hw := hw.le c2
               replace hc := hc.le c2
               replace h1 := h1.le c2
               replace a0 := c2.2 _ _ a0
               refine Qj E Y ?_
               clear E a; intro a E
               refine YO ?_
               exact Qa E Tryz.results12 Y ⟨_, Y, h5, (a4.trans (a1.trans (a2.trans (a3.trans c2)))), (QX.eqL h6 (by ((rw [show (sd % 47).toNat = 17 from by omega]; rfl)))), S⟩
              ·refine Qs (QK E Y Y fun _ B => Qj B Y ?_)
               clear E a B; intro a E
               refine Qz ?_
               refine Ql E Y (fun h7 => ?_) (fun h7 => ?_)
               ·refine Qs (QD 2 E Y fun _ B => Qi B Y (Vd _) fun _ D => Jt (off := 3) (part := [.int .i64 pk, .int .i64 pn, wv]) D Y (Tryz.isAgg27 _) (Tryz.sizeOf27 _) S.imm a0 Y Y ?_)
                clear E a B D; intro a E
                refine Qk (Qm E S Y Y Y (qf h1 hw (by omega) (by (omega)) (by omega)) lerf ?_)
                clear E a S; rintro a _ w m1 c3 ⟨m2, rfl, h8⟩ S E
                replace hw := hw.le c3
                replace hc := hc.le c3
                replace h1 := h1.le c3
                replace a0 := c3.2 _ _ a0
                refine Qg E Y Y fun _ B => Qg B Y Y ?_
                clear E a B; intro a E
                refine Qk (Qm E S Y Y Y (Yx h8) lerf ?_)
                clear E a S; rintro a m3 w h9 c4 i0 S E
                replace hw := hw.le c4
                replace hc := hc.le c4
                replace h1 := h1.le c4
                replace a0 := c4.2 _ _ a0
                refine Qj E Y ?_
                clear E a; intro a E
                refine YO ?_
                exact Qa E Tryz.results12 Y ⟨_, Y, h9, (a4.trans (a1.trans (a2.trans (a3.trans (c3.trans c4))))), (QX.eqL i0 (by ((rw [show (sd % 47).toNat = 18 from by omega]; rfl)))), S⟩
               ·refine Qs (QK E Y Y fun _ B => Qj B Y ?_)
                clear E a B; intro a E
                refine Qz ?_
                refine Ql E Y (fun i1 => ?_) (fun i1 => ?_)
                ·refine Qs (QD 3 E Y ?_)
                 clear E a; intro a E
                 refine Qk (QV (ys := [(((sn % 12).toNat : Nat) : Int), (((sm % 12).toNat : Nat) : Int)]) E S Y QE Y Y Y ?_)
                 clear E a S; rintro a w m4 E S
                 have S0 := S; clear S
                 obtain ⟨m5, c5, i2, S⟩ := S0.freezeI (by ((simp; done)))
                 clear S0
                 replace hw := hw.le c5
                 replace hc := hc.le c5
                 replace h1 := h1.le c5
                 replace a0 := c5.2 _ _ a0
                 refine Qk (Qm E S Y Y Y (qb h1 i2 (by (omega))) lerf ?_)
                 clear E a S; rintro a m6 w i3 c6 i4 S E
                 replace hw := hw.le c6
                 replace hc := hc.le c6
                 replace h1 := h1.le c6
                 replace a0 := c6.2 _ _ a0
                 refine Qj E Y ?_
                 clear E a; intro a E
                 refine YO ?_
                 exact Qa E Tryz.results12 Y ⟨_, Y, i3, (a4.trans (a1.trans (a2.trans (a3.trans (c5.trans c6))))), (QX.eqL i4 (by ((rw [show (sd % 47).toNat = 19 from by omega]; rfl)))), S⟩
                ·refine Qs (QK E Y Y fun _ B => Qj B Y ?_)
                 clear E a B; intro a E
                 refine Qz ?_
                 refine Ql E Y (fun i5 => ?_) (fun i5 => ?_)
                 ·refine Qs (Qn E Y fun _ B => Qi B Y (jg _) fun _ D => Qb D Y Tryz.isAgg3 S.imm (Qq a0 Y) fun _ F => Qi F Y (jf _) fun _ G => Qb G Y Tryz.isAgg3 S.imm (Qq a0 Y) fun _ I => Qn I Y ?_)
                  clear E a B D F G I; intro a E
                  refine Qk (Qm E S Y Y Y (jE h1 (by (omega))) lerf ?_)
                  clear E a S; rintro a m7 w i6 c7 i7 S E
                  replace hw := hw.le c7
                  replace hc := hc.le c7
                  replace h1 := h1.le c7
                  replace a0 := c7.2 _ _ a0
                  refine Qj E Y ?_
                  clear E a; intro a E
                  refine YO ?_
                  exact Qa E Tryz.results12 Y ⟨_, Y, i6, (a4.trans (a1.trans (a2.trans (a3.trans c7)))), (QX.eqL i7 (by ((rw [show (sd % 47).toNat = 22 from by omega]; rfl)))), S⟩
                 ·refine Qs (QK E Y Y fun _ B => Qj B Y ?_)
                  clear E a B; intro a E
                  refine Qz ?_
                  refine Ql E Y (fun i8 => ?_) (fun i8 => ?_)
                  ·refine Qs (Qn E Y fun _ B => Qi B Y (jg _) fun _ D => Qb D Y Tryz.isAgg3 S.imm (Qq a0 Y) fun _ F => Qi F Y (jf _) fun _ G => Qb G Y Tryz.isAgg3 S.imm (Qq a0 Y) ?_)
                   clear E a B D F G; intro a E
                   refine Qk (Qm E S Y Y Y (qg h1 (by (omega))) lerf ?_)
                   clear E a S; rintro a m8 w i9 c8 j0 S E
                   replace hw := hw.le c8
                   replace hc := hc.le c8
                   replace h1 := h1.le c8
                   replace a0 := c8.2 _ _ a0
                   refine Qj E Y ?_
                   clear E a; intro a E
                   refine YO ?_
                   exact Qa E Tryz.results12 Y ⟨_, Y, i9, (a4.trans (a1.trans (a2.trans (a3.trans c8)))), (QX.eqL j0 (by ((rw [show (sd % 47).toNat = 23 from by omega]; rfl)))), S⟩
                  ·refine Qs (QK E Y Y fun _ B => Qj B Y ?_)
                   clear E a B; intro a E
                   refine Qz ?_
                   refine Ql E Y (fun j1 => ?_) (fun j1 => ?_)
                   ·refine Qs (Qn E Y ?_)
                    clear E a; intro a E
                    refine Qk (Qm E S Y Y Y (jL h1 (by (omega))) lerf ?_)
                    clear E a S; rintro a m9 w j2 c9 j3 S E
                    replace hw := hw.le c9
                    replace hc := hc.le c9
                    replace h1 := h1.le c9
                    replace a0 := c9.2 _ _ a0
                    refine Qj E Y ?_
                    clear E a; intro a E
                    refine YO ?_
                    exact Qa E Tryz.results12 Y ⟨_, Y, j2, (a4.trans (a1.trans (a2.trans (a3.trans c9)))), (QX.eqL j3 (by ((rw [show (sd % 47).toNat = 24 from by omega]; rfl)))), S⟩
                   ·refine J_y (Za E Y (Tryz.isAgg32 _) (Tryz.sizeOf32 _) S.imm a0 fun _ B => QD 3 B Y ?_)
                    clear E a B; intro a E
                    refine Qk (Qm E S Y Y Y (zI hw hc h1 (by assumption) (by assumption) (by assumption) (by assumption) (by assumption) (by assumption) (by assumption) (by assumption) (by omega) (by omega)) lerf ?_)
                    clear E a S; rintro a n0 w j4 j5 j6 S E
                    refine Qj E Y ?_
                    clear E a; intro a E
                    refine Jj ?_
                    exact Qa E Tryz.results12 Y ⟨_, Y, j4, (a4.trans (a1.trans (a2.trans (a3.trans j5)))), j6, S⟩
theorem laws_eq {M : Hp} {v0 v1 : Value} {l0 l1 : List Int} (h0 : Qy M v0 l0) (h1 : Qy M v1 l1) :
  Pu Tryz.prog (.func (.func 10) #[] #[]) M [v0, v1] (fun r M' => r = .bool (decide (l0 = l1))) := by
 refine Qd Tryz.func10 Y Tryz.ntmps10 Y Tryz.call10 ?_
 intro a w M1 H hM1 S E
 replace h0 := h0.le hM1
 replace h1 := h1.le hM1
 have b0 := h0.bound
 have b1 := h1.bound
 refine Qs (Qj E Y fun _ B => Zp (Qn B Y fun _ D => Qt D Y QE h0.len fun _ F => Qn F Y fun _ G => Qt G Y QE h1.len fun _ I => Wb I Y Y ?_))
 clear E a B D F G I; intro a E
 refine Qz ?_
 refine Ql E Y (fun a2 => ?_) (fun a2 => ?_)
 ·refine Qs (Qj E Y ?_)
  clear E a; intro a E
  refine UJ ?_
  exact Qa E Tryz.results10 Y ⟨_, Y, M1, lerf, (bF (by ((try clear S); (try clear E); first | assumption | omega | rfl | (simp; done) | (simp_all; done) | (simp [List.take_add_one, *]; done) | grind [List.take_add_one]))), S⟩
 ·refine je (Qn E Y fun _ B => Qt B Y QE h0.len fun _ D => Qn D Y ?_)
  clear E a B D; intro a E
  refine ZH ?_
  refine QN (γ := Nat) (fun (k : Nat) a w => ∃ (a0 : Hp), Hp.le M1 a0 ∧ St w a0 (H) ∧ Env a 26 [] [(0, v0), (1, v1), (12, .int .i64 (((l0).length : Nat) : Int)), (13, .int .i64 ((k : Nat) : Int))] ∧ (k ≤ (l0).length) ∧ (l0.length = l1.length) ∧ (l0.take k = l1.take k)) (fun k => ((l0).length) - k) 0 ⟨M1, lerf, S, E.keep ⟨Y, Y, Y, Y, trivial⟩, by ((try clear S); (try clear E); first | assumption | omega | rfl | (simp; done) | (simp_all; done) | (simp [List.take_add_one, *]; done) | grind [List.take_add_one]), by ((try clear S); (try clear E); first | assumption | omega | rfl | (simp; done) | (simp_all; done) | (simp [List.take_add_one, *]; done) | grind [List.take_add_one]), by ((try clear S); (try clear E); first | assumption | omega | rfl | (simp; done) | (simp_all; done) | (simp [List.take_add_one, *]; done) | grind [List.take_add_one])⟩ ?_
  try clear E
  try clear S
  try clear a
  try clear w
  rintro k a w ⟨a0, a1, S, E, b3, b4, b5⟩
  replace h0 := h0.le a1
  replace h1 := h1.le a1
  refine Qs (Jc E Y Y ?_)
  clear E a; intro a E
  refine ZJ ?_
  refine Ql E Y (fun a3 => ?_) (fun a3 => ?_)
  ·refine YZ (QD 2 E Y ?_)
   clear E a; intro a E
   refine ZJ ?_
   replace S := S.mono_heap (w' := World.drew _) rfl
   refine Jb (C := fun x w => agree a0 w) (bf := (fun i => [])) [0, 1, 2, 3, 4, 5, 6, 7, 8] [0, 1, 2, 3, 4, 5, 6, 7, 8] Tryz.mixed (by kernel_rfl) (fun x hq => S.imm) ?_
   refine QU E Y (fun w hC => (QL E Y)) fun _ B => QU B Y (fun w hC => (QL B Y)) ?_
   clear E a B; intro a E
   obtain ⟨b6, a4⟩ : ∃ x, (l0)[k]? = some x := ⟨_, List.getElem?_eq_getElem (by first | omega | (simp; done) | (simp; omega) | (simp_all; omega))⟩
   obtain ⟨b7, a5, a6⟩ := h0.at a4
   refine QU E Y (fun w hC => (ZO E Y Y QE a5 Y)) fun _ B => QU B Y (fun w hC => (QQ B Y Tryz.isAgg3 hC a6)) fun _ D => QU D Y (fun w hC => (QL D Y)) fun _ F => QU F Y (fun w hC => (QL F Y)) ?_
   clear E a B D F; intro a E
   obtain ⟨b8, a7⟩ : ∃ x, (l1)[k]? = some x := ⟨_, List.getElem?_eq_getElem (by first | omega | (simp; done) | (simp; omega) | (simp_all; omega))⟩
   obtain ⟨b9, a8, a9⟩ := h1.at a7
   refine QU E Y (fun w hC => (ZO E Y Y QE a8 Y)) fun _ B => QU B Y (fun w hC => (QQ B Y Tryz.isAgg3 hC a9)) fun _ D => QU D Y (fun w hC => (R_neq D Y Y)) ?_
   clear E a B D; intro a E
   refine JI (JH ?_)
   refine JZ ?_
   refine Ql E Y (fun b2 => ?_) (fun b2 => ?_)
   ·refine Qs (Qj E Y ?_)
    clear E a; intro a E
    refine J_s (ZC (UA ?_))
    exact Qa E Tryz.results10 Y ⟨_, Y, a0, a1, (bF (by ((try clear S); (try clear E); first | assumption | omega | rfl | (simp; done) | (simp_all; done) | (simp [List.take_add_one, *]; done) | grind [List.take_add_one]))), S⟩
   ·refine zu (Qp (m := ((k + 1 : Nat) : Int)) E Y Y fun _ B => Qn B Y ?_)
    clear E a B; intro a E
    refine Qz ?_
    exact ⟨k + 1, ⟨a0, a1, S, E.keep ⟨Y, Y, Y, Y, trivial⟩, by ((try clear S); (try clear E); first | assumption | omega | rfl | (simp; done) | (simp_all; done) | (simp [List.take_add_one, *]; done) | grind [List.take_add_one]), by ((try clear S); (try clear E); first | assumption | omega | rfl | (simp; done) | (simp_all; done) | (simp [List.take_add_one, *]; done) | grind [List.take_add_one]), by ((try clear S); (try clear E); first | assumption | omega | rfl | (simp; done) | (simp_all; done) | (simp [List.take_add_one, *]; done) | grind [List.take_add_one])⟩, by omega⟩
  ·refine VJ (Qj E Y ?_)
   clear E a; intro a E
   refine Jj ?_
   exact Qa E Tryz.results10 Y ⟨_, Y, a0, a1, (bT (by ((try clear S); (try clear E); first | assumption | omega | rfl | (simp; done) | (simp_all; done) | (simp [List.take_add_one, *]; done) | grind [List.take_add_one]))), S⟩
theorem zJ {M : Hp} {v0 : Value} {l0 : List Int} (h0 : Qy M v0 l0){v1 : Value} {l1 : List TSt} (h1 : QX 9 RTS M v1 l1)  :
  PuC Tryz.prog 4 M [v0, v1] (fun r M' => r = .bool true) := by
 refine Wi Tryz.func4 Y Tryz.ntmps4 Y ?_
 intro a w M1 H hM1 S E
 replace h0 := h0.le hM1
 replace h1 := h1.le Zq hM1
 have b0 := h0.bound
 have b1 := h1.bound
 refine Qs (Qj E Y fun _ B => Zp (Qn B Y fun _ C => Qt C Y QE h0.len fun _ D => Ys D Y Y fun _ F => Qn F Y ?_))
 clear E a B C D F; intro a E
 refine Jo (decide (2147483647 < (((l0).length : Nat) : Int))) (fun a4 => ?_) (fun a4 => ?_)
 ·replace E := E.val (t := 11) Y a4
  replace E := E.val (t := 12) Y a4
  replace a4 := of_decide_eq_true a4
  refine Qe E Y Y Y Y fun _ B => Qe B Y Y Y Y fun _ C => Qe C Y Y Y Y fun _ D => JA D Y Y ?_
  clear E a B C D; intro a E
  refine Qz ?_
  refine QY E Y Y ?_
  refine Qs (Qj E Y ?_)
  clear E a; intro a E
  refine UJ ?_
  exact Qa E Tryz.results4 Y ⟨_, Y, M1, lerf, Y, S⟩
 ·replace E := E.val (t := 11) Y a4
  replace E := E.val (t := 12) Y a4
  replace a4 := of_decide_eq_false a4
  refine Qc E Y Y (Qn E Y ?_)
  clear E a; intro a E
  refine Qc E Y Y ?_
  refine Qk (Qm E S Y Y Y (laws_zzFits3 h1) lerf ?_)
  clear E a S; rintro a _ w c6 a9 rfl S E
  replace h0 := h0.le a9
  replace h1 := h1.le Zq a9
  refine Qc E Y Y (Ji E Y fun _ B => JB B Y Y ?_)
  clear E a B; intro a E
  refine Qz ?_
  refine Jf E Y (fun c7 => ?_) (fun c7 => ?_)
  ·refine Je ?_
   refine Qh (Qj E Y ?_)
   clear E a; intro a E
   refine UJ ?_
   exact Qa E Tryz.results4 Y ⟨_, Y, c6, a9, Y, S⟩
  ·refine Qx ?_
   refine JZ (UK ?_)
   refine Qk (QV (ys := [1]) E S Y QE Y Y Y ?_)
   clear E a S; rintro a w e2 E S
   refine UI (u := .agg #[.int .i64 4, .int .i64 0, .slice none 0 0]) (vs := [.int .i64 4]) E Y (fun w => FB27_0_i 4 w) ?_
   clear E a; intro a E
   have S0 := S; clear S
   obtain ⟨e3, b4, c8, S⟩ := S0.freezeI (by ((simp; done)))
   clear S0
   replace h0 := h0.le b4
   replace h1 := h1.le Zq b4
   refine Qk (Qm E S Y Y Y (jp c8 (QX.nil _) (by omega) (by ((simp; done)))) lerf ?_)
   clear E a S; rintro a e4 w e5 b5 c9 S E
   replace h0 := h0.le b5
   replace h1 := h1.le Zq b5
   refine Qt E Y QE c9.len fun _ B => Wb B Y Y ?_
   clear E a B; intro a E
   refine Qz ?_
   have d0 : (decide ((((QT (Jv 4 0 ([] : List Int)) 0 [1]).length : Nat) : Int) ≠ 1)) = false := by (clear S E; first | rfl | decide | (simp; done) | (simp_all; done))
   refine QF E Y d0 ?_
   refine je (QD 2 E Y ?_)
   clear E a; intro a E
   refine Qk (Qm E S Y Y Y (laws_light h0 h1) lerf ?_)
   clear E a S; rintro a _ w d1 b6 rfl S E
   replace h0 := h0.le b6
   replace h1 := h1.le Zq b6
   refine Ji E Y ?_
   clear E a; intro a E
   refine Qz ?_
   refine Jf E Y (fun d2 => ?_) (fun d2 => ?_)
   ·refine Je ?_
    refine Qh (Qj E Y ?_)
    clear E a; intro a E
    refine UJ ?_
    exact Qa E Tryz.results4 Y ⟨_, Y, d1, (a9.trans (b4.trans (b5.trans b6))), Y, S⟩
   ·have hli := lit (by assumption)
    refine VC ?_
    refine Qk (QV (ys := []) E S Y QE Y Y Y ?_)
    clear E a S; rintro a w e6 E S
    refine Qn E Y ?_
    clear E a; intro a E
    refine Qk (JJ (xs := ([] : List Int)) E S Y Y Y QE h0 (by ((simp; omega))) ?_)
    clear E a S; rintro a w e7 E S
    refine Qj E Y fun _ B => Zp (Qn B Y fun _ C => Qt C Y T23 h1.len fun _ D => Qn D Y ?_)
    clear E a B C D; intro a E
    refine ZH ?_
    have S0 := S; clear S
    obtain ⟨c3, b9, d3, S⟩ := S0.freezeI (by ((simp; omega)))
    clear S0
    replace h0 := h0.le b9
    replace h1 := h1.le Zq b9
    refine QN (γ := Nat) (fun (k : Nat) a w => ∃ (a7 : Hp) (u5 : Value), Hp.le c3 a7 ∧ St w a7 (H) ∧ Env a 57 [] [(0, v0), (5, u5), (29, v1), (30, .int .i64 (((l1).length : Nat) : Int)), (31, .int .i64 ((k : Nat) : Int))] ∧ (k ≤ (l1).length) ∧ Qy a7 u5 l0) (fun k => ((l1).length) - k) 0 ⟨c3, _, lerf, S, E.keep ⟨Y, Y, Y, Y, Y, trivial⟩, by (omega), (SLeq d3 (by rfl))⟩ ?_
    try clear E
    try clear S
    try clear a
    try clear w
    rintro k a w ⟨a7, u5, b7, S, E, e8, a2⟩
    replace h0 := h0.le b7
    replace h1 := h1.le Zq b7
    refine Qs (Jc E Y Y ?_)
    clear E a; intro a E
    refine ZJ ?_
    refine Ql E Y (fun d4 => ?_) (fun d4 => ?_)
    ·refine YZ ?_
     obtain ⟨a0, d5⟩ : ∃ x, (l1)[k]? = some x := ⟨_, List.getElem?_eq_getElem (by omega)⟩
     obtain ⟨e9, c0, c1, d6, d7, a5, a1, a6⟩ := RdTS.at h1 d5
     have hrcu_21 := a6.2.2.2.2.2
     replace a6 := And.intro a6.1 (And.intro a6.2.1 (And.intro a6.2.2.1 (And.intro a6.2.2.2.1 a6.2.2.2.2.1)))
     have f0 := a1.bound
     have bw_20 := a5.bound
     refine QZ E Y Y T23 d6 Y fun _ B => e_loadA (cs := [.int .i64 a0.1, .int .i64 a0.2.1, .int .i64 a0.2.2.1, .int .i64 a0.2.2.2.1, .int .i64 a0.2.2.2.2.1, c0, .int .i64 a0.2.2.2.2.2.2.1, .int .i64 a0.2.2.2.2.2.2.2.1, c1]) B Y (Tryz.isAgg32 _) (Tryz.sizeOf32 _) S.imm d7 ?_
     clear E a B; intro a E
     refine Qk (Ja (cs := #[.int .i64 0, .int .i64 0, .int .i64 0, .int .i64 0, .int .i64 0, .slice none 0 0, .int .i64 0, .int .i64 0, .slice none 0 0]) E S Y Tryz.zeroValue32 Y ?_)
     clear E a S; rintro a w d8 E S
     refine Jm (Zv (us := [.int .i64 a0.1, .int .i64 a0.2.1, .int .i64 a0.2.2.1, .int .i64 a0.2.2.2.1, .int .i64 a0.2.2.2.2.1, c0, .int .i64 a0.2.2.2.2.2.2.1, .int .i64 a0.2.2.2.2.2.2.2.1, c1]) E S Y Y (Tryz.sizeOf32 _) Y (by intro u hu; simp only [List.mem_cons, List.not_mem_nil, or_false] at hu; rcases hu with rfl | rfl | rfl | rfl | rfl | rfl | rfl | rfl | rfl <;> first | exact rfl | exact rfl | exact rfl | exact rfl | exact rfl | exact (QX.one' a5) | exact rfl | exact rfl | exact (QX.one' a1)) ?_)
     clear E a S; rintro a w E S
     replace S : St w a7 (Jk d8 (.cells #[.int .i64 a0.1, .int .i64 a0.2.1, .int .i64 a0.2.2.1, .int .i64 a0.2.2.2.1, .int .i64 a0.2.2.2.2.1, c0, .int .i64 a0.2.2.2.2.2.2.1, .int .i64 a0.2.2.2.2.2.2.2.1, c1] 32) :: _) := S
     have S0 := S; clear S
     obtain ⟨f1, b2, a3, S⟩ := S0.freezeB
     clear S0
     replace h0 := h0.le b2
     replace a2 := a2.le b2
     replace a5 := a5.le b2
     replace a1 := a1.le b2
     refine QI ?_
     refine Qk (QV (ys := []) E S Y QE Y Y Y ?_)
     clear E a S; rintro a w f2 E S
     have hls := hli.2 _ (List.mem_of_getElem? (by assumption))
     refine Qi E Y (JR _) fun _ B => Qb B Y Tryz.isAgg22 S.imm (Qq a3 Y) ?_
     clear E a B; intro a E
     refine Qk (JJ (xs := ([] : List Int)) E S Y Y Y QE a1 (by ((simp; omega))) ?_)
     clear E a S; rintro a w f3 E S
     refine Qj E Y fun _ B => QI (Za B Y (Tryz.isAgg32 _) (Tryz.sizeOf32 _) S.imm a3 fun _ C => Qn C Y ?_)
     clear E a B C; intro a E
     refine Qk (Qm E S Y Y Y (Gw a5 a1 h0 (by omega) (by omega) (by omega) (by omega) (by omega) (by omega) (by omega) (by omega)) lerf ?_)
     clear E a S; rintro a f4 w f5 a8 f6 S E
     replace h0 := h0.le a8
     replace a2 := a2.le a8
     replace a5 := a5.le a8
     replace a1 := a1.le a8
     replace a3 := a8.2 _ _ a3
     refine QI (Za E Y (Tryz.isAgg32 _) (Tryz.sizeOf32 _) S.imm a3 fun _ B => Qn B Y ?_)
     clear E a B; intro a E
     refine Qk (Qm E S Y Y Y (laws_passing a5 a1 h0 (by omega) (by omega) (by omega) (by omega) (by omega) (by omega) (by omega) (by omega)) lerf ?_)
     clear E a S; rintro a f7 w f8 b3 f9 S E
     replace h0 := h0.le b3
     replace a2 := a2.le b3
     replace a1 := a1.le b3
     replace a3 := b3.2 _ _ a3
     refine QI (QD 2 E Y ?_)
     clear E a; intro a E
     refine Qk (Qm E S Y Y Y (laws_eq h0 a2) lerf ?_)
     clear E a S; rintro a _ w g0 b8 rfl S E
     replace a2 := a2.le b8
     replace a1 := a1.le b8
     replace a3 := b8.2 _ _ a3
     refine Ji E Y fun _ B => Qn B Y ?_
     clear E a B; intro a E
     have c4 : (!(decide (l0 = l0))) = false := by (clear S E; first | rfl | decide | (simp; done) | (simp_all; done))
     replace E := E.val (t := 48) Y c4
     replace E := E.val (t := 49) Y c4
     refine Qc E Y Y (Qi E Y (JR _) fun _ B => Qc B Y Y (Qb B Y Tryz.isAgg22 S.imm (Qq a3 Y) fun _ C => Qc C Y Y (Qn C Y ?_)))
     clear E a B C; intro a E
     have S0 := S; clear S
     obtain ⟨g1, c2, d9, S⟩ := S0.freezeI (by ((simp; omega)))
     clear S0
     replace a2 := a2.le c2
     replace a1 := a1.le c2
     refine Qc E Y Y ?_
     refine Qk (Qm E S Y Y Y (laws_eq a1 d9) lerf ?_)
     clear E a S; rintro a _ w e0 c5 rfl S E
     replace a2 := a2.le c5
     refine Qc E Y Y (Ji E Y fun _ B => JB B Y Y ?_)
     clear E a B; intro a E
     refine Qz ?_
     have e1 : (!(decide (a0.2.2.2.2.2.2.2.2 = [] ++ a0.2.2.2.2.2.2.2.2))) = false := by (clear S E; first | rfl | decide | (simp; done) | (simp_all; done))
     refine QF E Y e1 ?_
     refine zu (Qp (m := ((k + 1 : Nat) : Int)) E Y Y fun _ B => Qn B Y ?_)
     clear E a B; intro a E
     refine Qz ?_
     exact ⟨k + 1, ⟨e0, _, (b7.trans (b2.trans (a8.trans (b3.trans (b8.trans (c2.trans c5)))))), S, E.keep ⟨Y, Y, Y, Y, Y, trivial⟩, by (omega), (SLeq a2 (by rfl))⟩, by omega⟩
    ·refine VJ (Qj E Y ?_)
     clear E a; intro a E
     refine Jj ?_
     exact Qa E Tryz.results4 Y ⟨_, Y, a7, (a9.trans (b4.trans (b5.trans (b6.trans (b9.trans b7))))), Y, S⟩
end Go.Proofs.YtgceicmfefpngaaGreat.wFnScriptOwn
