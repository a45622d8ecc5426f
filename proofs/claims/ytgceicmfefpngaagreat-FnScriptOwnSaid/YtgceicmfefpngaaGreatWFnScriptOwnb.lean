import Derived.Test.YtgceicmfefpngaaGreatWFnScriptOwna
set_option linter.unusedVariables false
set_option linter.unusedSimpArgs false
namespace Go.Proofs.YtgceicmfefpngaaGreat.wFnScriptOwn
open Go Go.Sl
set_option maxRecDepth 100000
set_option maxHeartbeats 4000000
variable {M : Hp} {v0 v1 v2 v3 v4 v5 v6 v7 : Value} {l0 l1 l2 l3 l4 l5 l6 l7 : List Int} {n0 n1 n2 n3 n4 n5 n6 n7 : Nat} {x0 x1 x2 x3 x4 x5 x6 x7 : Int}
theorem laws_zzFits1 {M : Hp} {pk0 pn0 : Int} {w0 : Value} {pl0 : List Int} (hw0 : Qy M w0 pl0) (gn0 : -9223372036854775808 ≤ pn0 ∧ pn0 ≤ 9223372036854775807) :
  Pu Tryz.prog (.func (.func 92) #[] #[]) M [.agg #[.int .i64 pk0, .int .i64 pn0, w0]] (fun r M' => r = .bool (decide ((pl0).length ≤ 2147483647))) := by
 refine Qd Tryz.func92 Y Tryz.ntmps92 Y Tryz.call92 ?_
 intro a w M1 H hM1 S E
 replace hw0 := hw0.le hM1
 have bw0 := hw0.bound
 refine Qs ?_
 refine Qk (QA (cs := #[.int .i64 pk0, .int .i64 pn0, w0]) E S Y Y Y ?_)
 clear E a S; rintro a w a4 E S
 obtain ⟨a1, a0, a2, S⟩ := S.freezeB
 replace hw0 := hw0.le a0
 refine Qj E Y fun _ B => Zp (Qi B Y (vH _) fun _ C => Qb C Y Tryz.isAgg22 S.imm (Qq a2 Y) fun _ D => Qt D Y QE hw0.len fun _ F => Ys F Y Y ?_)
 clear E a B C D F; intro a E
 refine Qz ?_
 refine Ql E Y (fun a3 => ?_) (fun a3 => ?_)
 ·refine Qs (Qj E Y ?_)
  clear E a; intro a E
  refine UJ ?_
  exact Qa E Tryz.results92 Y ⟨_, Y, a1, a0, (bF (by (omega))), S⟩
 ·refine VC (Qj E Y ?_)
  clear E a; intro a E
  refine Jj ?_
  exact Qa E Tryz.results92 Y ⟨_, Y, a1, a0, (bT (by (omega))), S⟩
theorem laws_zzFits4 {M : Hp} {sd sn sm pk pn kk kn : Int} {wv cv : Value} {pl c : List Int} (hw : Qy M wv pl) (hc : Qy M cv c) (gd : -9223372036854775808 ≤ sd ∧ sd ≤ 9223372036854775807) (gn : -9223372036854775808 ≤ sn ∧ sn ≤ 9223372036854775807) (gm : -9223372036854775808 ≤ sm ∧ sm ≤ 9223372036854775807) (gpn : -9223372036854775808 ≤ pn ∧ pn ≤ 9223372036854775807) (gkn : -9223372036854775808 ≤ kn ∧ kn ≤ 9223372036854775807)  :
  Pu Tryz.prog (.func (.func 14) #[] #[]) M [.agg #[.int .i64 sd, .int .i64 sn, .int .i64 sm, .int .i64 pk, .int .i64 pn, wv, .int .i64 kk, .int .i64 kn, cv]] (fun r M' => r = .bool (decide (pl.length ≤ 2147483647 ∧ c.length ≤ 2147483647))) := by
 refine Qd Tryz.func14 Y Tryz.ntmps14 Y Tryz.call14 ?_
 intro a w M1 H hM1 S E
 replace hw := hw.le hM1
 replace hc := hc.le hM1
 have bw := hw.bound
 have bc := hc.bound
 refine Qs ?_
 refine Qk (QA (cs := #[.int .i64 sd, .int .i64 sn, .int .i64 sm, .int .i64 pk, .int .i64 pn, wv, .int .i64 kk, .int .i64 kn, cv]) E S Y Y Y ?_)
 clear E a S; rintro a w a6 E S
 obtain ⟨a7, a0, a2, S⟩ := S.freezeB
 replace hw := hw.le a0
 replace hc := hc.le a0
 refine Qj E Y fun _ B => Zp (Qi B Y (Vd _) fun _ C => Jt (off := 3) (part := [.int .i64 pk, .int .i64 pn, wv]) C Y (Tryz.isAgg27 _) (Tryz.sizeOf27 _) S.imm a2 Y Y ?_)
 clear E a B C; intro a E
 refine Qk (Qm E S Y Y Y (laws_zzFits1 hw (by omega)) lerf ?_)
 clear E a S; rintro a _ w a3 a1 rfl S E
 replace hc := hc.le a1
 replace a2 := a1.2 _ _ a2
 refine Ji E Y ?_
 clear E a; intro a E
 refine Qz ?_
 refine Jf E Y (fun a4 => ?_) (fun a4 => ?_)
 ·refine Je ?_
  refine Qh (Qj E Y ?_)
  clear E a; intro a E
  refine UJ ?_
  exact Qa E Tryz.results14 Y ⟨_, Y, a3, (a0.trans a1), (bF (by ((simp_all; omega)))), S⟩
 ·refine Qx ?_
  refine JZ (UK (Qi E Y (JR _) fun _ B => Qb B Y Tryz.isAgg22 S.imm (Qq a2 Y) fun _ C => Qt C Y QE hc.len fun _ D => Ys D Y Y ?_))
  clear E a B C D; intro a E
  refine Qz ?_
  refine Ql E Y (fun a5 => ?_) (fun a5 => ?_)
  ·refine Qs (Qj E Y ?_)
   clear E a; intro a E
   refine UJ ?_
   exact Qa E Tryz.results14 Y ⟨_, Y, a3, (a0.trans a1), (bF (by ((simp_all; omega)))), S⟩
  ·refine VC (Qj E Y ?_)
   clear E a; intro a E
   refine Jj ?_
   exact Qa E Tryz.results14 Y ⟨_, Y, a3, (a0.trans a1), (bT (by ((simp_all; omega)))), S⟩
theorem laws_zzFits3 {M : Hp} {v0 : Value} {l0 : List TSt} (h0 : QX 9 RTS M v0 l0)  :
  Pu Tryz.prog (.func (.func 6) #[] #[]) M [v0] (fun r M' => r = .bool (decide (l0.length ≤ 2147483647 ∧ ∀ s ∈ l0, (s.2.2.2.2.2.1.length ≤ 2147483647 ∧ s.2.2.2.2.2.2.2.2.length ≤ 2147483647)))) := by
 refine Qd Tryz.func6 Y Tryz.ntmps6 Y Tryz.call6 ?_
 intro a w M1 H hM1 S E
 replace h0 := h0.le Zq hM1
 have b0 := h0.bound
 refine Qs (Qj E Y fun _ B => Zp (Qn B Y fun _ C => Qt C Y T23 h0.len fun _ D => Ys D Y Y ?_))
 clear E a B C D; intro a E
 refine Qz ?_
 refine Ql E Y (fun b2 => ?_) (fun b2 => ?_)
 ·refine Qs (Qj E Y ?_)
  clear E a; intro a E
  refine UJ ?_
  exact Qa E Tryz.results6 Y ⟨_, Y, M1, lerf, (bF (by omega)), S⟩
 ·refine je (Qn E Y fun _ B => Qt B Y T23 h0.len fun _ C => Qn C Y ?_)
  clear E a B C; intro a E
  refine ZH ?_
  refine QN (γ := Nat) (fun (k : Nat) a w => ∃ (a2 : Hp), Hp.le M1 a2 ∧ St w a2 (H) ∧ Env a 18 [] [(8, v0), (9, .int .i64 (((l0).length : Nat) : Int)), (10, .int .i64 ((k : Nat) : Int))] ∧ (k ≤ (l0).length) ∧ (∀ s ∈ l0.take k, (s.2.2.2.2.2.1.length ≤ 2147483647 ∧ s.2.2.2.2.2.2.2.2.length ≤ 2147483647))) (fun k => ((l0).length) - k) 0 ⟨M1, lerf, S, E.keep ⟨Y, Y, Y, trivial⟩, by (omega), (by simp)⟩ ?_
  try clear E
  try clear S
  try clear a
  try clear w
  rintro k a w ⟨a2, a5, S, E, c0, c1⟩
  replace h0 := h0.le Zq a5
  refine Qs (Jc E Y Y ?_)
  clear E a; intro a E
  refine ZJ ?_
  refine Ql E Y (fun b3 => ?_) (fun b3 => ?_)
  ·refine YZ ?_
   obtain ⟨a0, b4⟩ : ∃ x, (l0)[k]? = some x := ⟨_, List.getElem?_eq_getElem (by omega)⟩
   obtain ⟨c2, a7, a8, b5, b6, a3, a4, a1⟩ := RdTS.at h0 b4
   have hrcu_7 := a1.2.2.2.2.2
   replace a1 := And.intro a1.1 (And.intro a1.2.1 (And.intro a1.2.2.1 (And.intro a1.2.2.2.1 a1.2.2.2.2.1)))
   have c3 := a4.bound
   have bw_6 := a3.bound
   refine QZ E Y Y T23 b5 Y fun _ B => e_loadA (cs := [.int .i64 a0.1, .int .i64 a0.2.1, .int .i64 a0.2.2.1, .int .i64 a0.2.2.2.1, .int .i64 a0.2.2.2.2.1, a7, .int .i64 a0.2.2.2.2.2.2.1, .int .i64 a0.2.2.2.2.2.2.2.1, a8]) B Y (Tryz.isAgg32 _) (Tryz.sizeOf32 _) S.imm b6 ?_
   clear E a B; intro a E
   refine Qk (Ja (cs := #[.int .i64 0, .int .i64 0, .int .i64 0, .int .i64 0, .int .i64 0, .slice none 0 0, .int .i64 0, .int .i64 0, .slice none 0 0]) E S Y Tryz.zeroValue32 Y ?_)
   clear E a S; rintro a w b7 E S
   refine Jm (Zv (us := [.int .i64 a0.1, .int .i64 a0.2.1, .int .i64 a0.2.2.1, .int .i64 a0.2.2.2.1, .int .i64 a0.2.2.2.2.1, a7, .int .i64 a0.2.2.2.2.2.2.1, .int .i64 a0.2.2.2.2.2.2.2.1, a8]) E S Y Y (Tryz.sizeOf32 _) Y (by intro u hu; simp only [List.mem_cons, List.not_mem_nil, or_false] at hu; rcases hu with rfl | rfl | rfl | rfl | rfl | rfl | rfl | rfl | rfl <;> first | exact rfl | exact rfl | exact rfl | exact rfl | exact rfl | exact (QX.one' a3) | exact rfl | exact rfl | exact (QX.one' a4)) ?_)
   clear E a S; rintro a w E S
   replace S : St w a2 (Jk b7 (.cells #[.int .i64 a0.1, .int .i64 a0.2.1, .int .i64 a0.2.2.1, .int .i64 a0.2.2.2.1, .int .i64 a0.2.2.2.2.1, a7, .int .i64 a0.2.2.2.2.2.2.1, .int .i64 a0.2.2.2.2.2.2.2.1, a8] 32) :: _) := S
   have S0 := S; clear S
   obtain ⟨c4, a6, b8, S⟩ := S0.freezeB
   clear S0
   replace a3 := a3.le a6
   replace a4 := a4.le a6
   refine QI (Za E Y (Tryz.isAgg32 _) (Tryz.sizeOf32 _) S.imm b8 ?_)
   clear E a; intro a E
   refine Qk (Qm E S Y Y Y (laws_zzFits4 a3 a4 (by omega) (by omega) (by omega) (by omega) (by omega)) lerf ?_)
   clear E a S; rintro a _ w a9 b1 rfl S E
   refine Ji E Y ?_
   clear E a; intro a E
   refine Qz ?_
   refine Jf E Y (fun b9 => ?_) (fun b9 => ?_)
   ·refine Je ?_
    refine Qh (Qj E Y ?_)
    clear E a; intro a E
    refine J_s (ZC (UA ?_))
    exact Qa E Tryz.results6 Y ⟨_, Y, a9, (a5.trans (a6.trans b1)), (bF (by (intro h9; have h8 := h9.2 _ (List.mem_of_getElem? (by assumption)); simp_all; done))), S⟩
   ·refine Qx ?_
    refine WN (Qp (m := ((k + 1 : Nat) : Int)) E Y Y fun _ B => Qn B Y ?_)
    clear E a B; intro a E
    refine Qz ?_
    exact ⟨k + 1, ⟨a9, (a5.trans (a6.trans b1)), S, E.keep ⟨Y, Y, Y, trivial⟩, by (omega), (by refine tkA (by assumption) (by assumption) ?_; simp_all; done)⟩, by omega⟩
  ·refine VJ (Qj E Y ?_)
   clear E a; intro a E
   refine Jj ?_
   exact Qa E Tryz.results6 Y ⟨_, Y, a2, a5, (bT (by (exact ⟨by omega, tkE (by assumption) (by omega)⟩))), S⟩
theorem lo_Filter {M : Hp} {v0 : Value} {l0 : List Int} (h0 : Qy M v0 l0){v1 : Value} {f1 : Int → Int → Bool} (h1 : jP Tryz.prog v1 M f1) (hb : l0.length ≤ 1000000000000) :
  Pu Tryz.prog (.func (.func 15) #[] #[]) M [v0, v1] (fun r M' => Qy M' r (QT f1 0 l0)) := by
 refine Qd Tryz.func15 Y Tryz.ntmps15 Y Tryz.call15 ?_
 intro a w M1 H hM1 S E
 replace h0 := h0.le hM1
 replace h1 := h1.le hM1
 have b0 := h0.bound
 refine Qs (Qj E Y fun _ B => QI (Qn B Y fun _ C => Qt C Y QE h0.len ?_))
 clear E a B C; intro a E
 refine Qk (JD (k := (l0).length) E S Y Y Y QE Y (by omega) (by omega) (by omega) ?_)
 clear E a S; rintro a w b6 E S
 replace S := S.made0
 refine Qj E Y fun _ B => Zp (Qn B Y fun _ C => Qt C Y QE h0.len fun _ D => Qn D Y ?_)
 clear E a B C D; intro a E
 refine ZH ?_
 replace S := S.re1 (l' := QT f1 0 (l0.take 0)) (by (simp [QT]; done))
 refine QN (γ := Nat) (fun (k : Nat) a w => ∃ (a1 : Hp) (u5 : Value), Hp.le M1 a1 ∧ St w a1 (Jg 3 u5 (QT f1 0 (l0.take k)) :: H) ∧ Env a 31 [] [(0, v0), (1, v1), (5, u5), (11, .int .i64 (((l0).length : Nat) : Int)), (12, .int .i64 ((k : Nat) : Int))] ∧ (k ≤ (l0).length)) (fun k => ((l0).length) - k) 0 ⟨M1, _, lerf, S, E.keep ⟨Y, Y, Y, Y, Y, trivial⟩, by (omega)⟩ ?_
 try clear E
 try clear S
 try clear a
 try clear w
 rintro k a w ⟨a1, u5, a0, S, E, b7⟩
 replace h0 := h0.le a0
 replace h1 := h1.le a0
 have hfl := Zs f1 (l0.take k) 0; simp only [List.length_take] at hfl
 refine Qs (Jc E Y Y ?_)
 clear E a; intro a E
 refine ZJ ?_
 refine Ql E Y (fun a6 => ?_) (fun a6 => ?_)
 ·refine YZ (QD 2 E Y fun _ B => QI (QD 3 B Y ?_))
  clear E a B; intro a E
  obtain ⟨a2, a4⟩ : ∃ x, (l0)[k]? = some x := ⟨_, List.getElem?_eq_getElem (by omega)⟩
  obtain ⟨b8, a7, a8⟩ := h0.at a4
  refine QZ E Y Y QE a7 Y fun _ B => Qb B Y Tryz.isAgg3 S.imm a8 fun _ C => Qn C Y ?_
  clear E a B C; intro a E
  refine Qk (Qm E S Y Y Y (h1.2 a2 ((k : Nat) : Int)) lerf ?_)
  clear E a S; rintro a _ w a5 a3 rfl S E
  replace h0 := h0.le a3
  refine Qz ?_
  refine Jf E Y (fun a9 => ?_) (fun a9 => ?_)
  ·refine Qh ?_
   refine QD 3 E Y ?_
   clear E a; intro a E
   obtain ⟨b9, b1, b2⟩ := h0.at a4
   refine QZ E Y Y QE b1 Y fun _ B => Qb B Y Tryz.isAgg3 S.imm b2 ?_
   clear E a B; intro a E
   refine Qk (QV (ys := [a2]) E S Y QE Y Y Y ?_)
   clear E a S; rintro a w c0 E S
   replace S := S.front1.front1
   refine Qk (JF (xs := QT f1 0 (l0.take k)) (ys := [a2]) E S Y Y Y QE (by (simp; omega)) ?_)
   clear E a S; rintro a w c1 E S
   refine Qj E Y fun _ B => Wj (Qp (m := ((k + 1 : Nat) : Int)) B Y Y fun _ C => Qn C Y ?_)
   clear E a B C; intro a E
   refine Qz ?_
   replace S := S.re1 (l' := QT f1 0 (l0.take (k + 1))) (by (rw [Zb (by assumption)]; simp [*]; done))
   exact ⟨k + 1, ⟨a5, _, (a0.trans a3), S, E.keep ⟨Y, Y, Y, Y, Y, trivial⟩, by (omega)⟩, by omega⟩
  ·refine Qx ?_
   refine WN (Qp (m := ((k + 1 : Nat) : Int)) E Y Y fun _ B => Qn B Y ?_)
   clear E a B; intro a E
   refine Qz ?_
   replace S := S.re1 (l' := QT f1 0 (l0.take (k + 1))) (by (rw [Zb (by assumption)]; simp [*]; done))
   exact ⟨k + 1, ⟨a5, _, (a0.trans a3), S, E.keep ⟨Y, Y, Y, Y, Y, trivial⟩, by (omega)⟩, by omega⟩
 ·refine VJ (QD 2 E Y ?_)
  clear E a; intro a E
  refine Jj ?_
  have S0 := S; clear S
  obtain ⟨b3, b4, b5, S⟩ := S0.freezeI (by (have hfl := Zs f1 (l0.take k) 0; simp only [List.length_take] at hfl; omega))
  clear S0
  exact Qa E Tryz.results15 Y ⟨_, Y, b3, (a0.trans b4), (QX.eqL b5 (by (rw [List.take_of_length_le (by omega)]))), S⟩
theorem yV {M : Hp} {x0 x1 : Int} (hn : x1 ≠ 0) (g1 : -9223372036854775808 ≤ x1 ∧ x1 ≤ 9223372036854775807) :
  Pu Tryz.prog (.func (.func 93) #[] #[]) M [.int .i64 x0, .int .i64 x1] (fun r M' => r = .int .i64 (x0 % x1)) := by
 refine Qd Tryz.func93 Y Tryz.ntmps93 Y Tryz.call93 ?_
 intro a w M1 H hM1 S E
 have ht := UN x0 x1 hn
 refine Qs (Qj E Y fun _ B => QI (QD 2 B Y fun _ C => vu C Y Y (by omega) fun _ D => Qj D Y fun _ F => Zp (Qn F Y fun _ G => Jc G Y Y ?_)))
 clear E a B C D F G; intro a E
 refine Qz ?_
 refine Ql E Y (fun a0 => ?_) (fun a0 => ?_)
 ·refine UK (Qn E Y fun _ B => Jc B Y Y ?_)
  clear E a B; intro a E
  refine Qz ?_
  refine Ql E Y (fun a1 => ?_) (fun a1 => ?_)
  ·refine Qs (QD 2 E Y fun _ B => JT (m := (Int.tmod x0 x1) - x1) B Y Y fun _ C => Qj C Y ?_)
   clear E a B C; intro a E
   refine UJ (UA ?_)
   exact Qa E Tryz.results93 Y ⟨_, Y, M1, lerf, (congrArg (Value.int .i64) (by omega)), S⟩
  ·refine VC (QD 2 E Y fun _ B => Qp (m := (Int.tmod x0 x1) + x1) B Y Y fun _ C => Qj C Y ?_)
   clear E a B C; intro a E
   refine UJ ?_
   exact Qa E Tryz.results93 Y ⟨_, Y, M1, lerf, (congrArg (Value.int .i64) (by omega)), S⟩
 ·refine VC (QD 2 E Y ?_)
  clear E a; intro a E
  refine Jj ?_
  exact Qa E Tryz.results93 Y ⟨_, Y, M1, lerf, (congrArg (Value.int .i64) (by omega)), S⟩
theorem slices_Index {M : Hp} {v0 : Value} {l0 : List Int} (h0 : Qy M v0 l0){x1 : Int} :
  Pu Tryz.prog (.func (.func 231) #[] #[]) M [v0, .int .i64 x1] (fun r M' => r = .int .i64 (idxOf l0 x1)) := by
 refine Qd Tryz.func231 Y Tryz.ntmps231 Y Tryz.call231 ?_
 intro a w M1 H hM1 S E
 replace h0 := h0.le hM1
 have b0 := h0.bound
 refine Qs (Qj E Y fun _ B => Zp (Qn B Y fun _ C => Qt C Y QE h0.len fun _ D => Qn D Y ?_))
 clear E a B C D; intro a E
 refine ZH ?_
 refine QN (γ := Nat) (fun (k : Nat) a w => ∃ (a0 : Hp), Hp.le M1 a0 ∧ St w a0 (H) ∧ Env a 19 [] [(0, v0), (1, .int .i64 x1), (7, .int .i64 (((l0).length : Nat) : Int)), (8, .int .i64 ((k : Nat) : Int))] ∧ (k ≤ (l0).length) ∧ (∀ j, j < k → l0[j]? ≠ some x1)) (fun k => ((l0).length) - k) 0 ⟨M1, lerf, S, E.keep ⟨Y, Y, Y, Y, trivial⟩, by ((try clear S); (try clear E); first | assumption | omega | rfl | (simp; done) | (simp_all; done) | (simp [List.take_add_one, *]; done) | grind [List.take_add_one]), by ((try clear S); (try clear E); first | assumption | omega | rfl | (simp; done) | (simp_all; done) | (simp [List.take_add_one, *]; done) | grind [List.take_add_one])⟩ ?_
 try clear E
 try clear S
 try clear a
 try clear w
 rintro k a w ⟨a0, a1, S, E, a8, a2⟩
 replace h0 := h0.le a1
 refine Qs (Jc E Y Y ?_)
 clear E a; intro a E
 refine ZJ ?_
 refine Ql E Y (fun a3 => ?_) (fun a3 => ?_)
 ·refine YZ (QD 2 E Y fun _ B => QI (QD 3 B Y ?_))
  clear E a B; intro a E
  obtain ⟨a9, a4⟩ : ∃ x, (l0)[k]? = some x := ⟨_, List.getElem?_eq_getElem (by first | omega | (simp; done) | (simp; omega) | (simp_all; omega))⟩
  obtain ⟨b1, a5, a6⟩ := h0.at a4
  refine QZ E Y Y QE a5 Y fun _ B => Qb B Y Tryz.isAgg3 S.imm a6 fun _ C => QK C Y Y ?_
  clear E a B C; intro a E
  refine Qz ?_
  refine Ql E Y (fun a7 => ?_) (fun a7 => ?_)
  ·refine Qs (QD 2 E Y ?_)
   clear E a; intro a E
   refine J_s (ZC (UA ?_))
   exact Qa E Tryz.results231 Y ⟨_, Y, a0, a1, (congrArg (Value.int .i64) (by (rw [idxOf_some (k := k) (by simp_all) a2]))), S⟩
  ·refine zu (Qp (m := ((k + 1 : Nat) : Int)) E Y Y fun _ B => Qn B Y ?_)
   clear E a B; intro a E
   refine Qz ?_
   exact ⟨k + 1, ⟨a0, a1, S, E.keep ⟨Y, Y, Y, Y, trivial⟩, by ((try clear S); (try clear E); first | assumption | omega | rfl | (simp; done) | (simp_all; done) | (simp [List.take_add_one, *]; done) | grind [List.take_add_one]), by ((try clear S); (try clear E); first | assumption | omega | rfl | (simp; done) | (simp_all; done) | (simp [List.take_add_one, *]; done) | grind [List.take_add_one])⟩, by omega⟩
 ·refine VJ (Qj E Y ?_)
  clear E a; intro a E
  refine Jj ?_
  exact Qa E Tryz.results231 Y ⟨_, Y, a0, a1, (congrArg (Value.int .i64) (by (rw [vo (fun j e => by have := (List.getElem?_eq_some_iff.1 e).1; exact a2 j (by omega) e)]))), S⟩
theorem slices_Contains {M : Hp} {v0 : Value} {l0 : List Int} (h0 : Qy M v0 l0){x1 : Int} :
  Pu Tryz.prog (.func (.func 94) #[] #[]) M [v0, .int .i64 x1] (fun r M' => r = .bool (decide (x1 ∈ l0))) := by
 refine Qd Tryz.func94 Y Tryz.ntmps94 Y Tryz.call94 ?_
 intro a w M1 H hM1 S E
 replace h0 := h0.le hM1
 have b0 := h0.bound
 refine Qs (Qj E Y fun _ B => QI (QD 2 B Y ?_))
 clear E a B; intro a E
 refine Qk (Qm E S Y Y Y (slices_Index h0) lerf ?_)
 clear E a S; rintro a _ w a0 a1 rfl S E
 refine Wc E Y Y fun _ B => Qj B Y ?_
 clear E a B; intro a E
 refine Jj ?_
 exact Qa E Tryz.results94 Y ⟨_, Y, a0, a1, (cgB (by (exact idxOf_mem _ _))), S⟩
theorem Pred_at_c {M : Hp} {pk0 pn0 : Int} {w0 : Value} {pl0 : List Int} (hw0 : Qy M w0 pl0) (gn0 : -9223372036854775808 ≤ pn0 ∧ pn0 ≤ 9223372036854775807){x1 x2 : Int} :
  PuC Tryz.prog 16 M [.agg #[.int .i64 pk0, .int .i64 pn0, w0], .int .i64 x1, .int .i64 x2] (fun r M' => r = .bool (Jv pk0 pn0 pl0 x1 x2)) := by
 refine Wi Tryz.func16 Y Tryz.ntmps16 Y ?_
 intro a w M1 H hM1 S E
 replace hw0 := hw0.le hM1
 have bw0 := hw0.bound
 refine Qs ?_
 refine Qk (QA (cs := #[.int .i64 pk0, .int .i64 pn0, w0]) E S Y Y Y ?_)
 clear E a S; rintro a w b9 E S
 obtain ⟨a4, a1, a0, S⟩ := S.freezeB
 replace hw0 := hw0.le a1
 refine Qj E Y fun _ B => Zp (Qi B Y (FA27_0 _) fun _ C => Qb C Y Tryz.isAgg3 S.imm (Qq a0 Y) fun _ D => J_w (QK D Y Y fun _ F => Qj F Y ?_))
 clear E a B C D F; intro a E
 refine Qz ?_
 refine Ql E Y (fun a8 => ?_) (fun a8 => ?_)
 ·refine Qs (Qn E Y fun _ B => Qi B Y (qr _) fun _ C => Qb C Y Tryz.isAgg3 S.imm (Qq a0 Y) fun _ D => Jc D Y Y fun _ F => Qj F Y ?_)
  clear E a B C D F; intro a E
  refine YO ?_
  exact Qa E Tryz.results16 Y ⟨_, Y, a4, a1, (cgB (by (clear E S; unfold Jv; first | (have e := (Ud (l := pl0) (by assumption)).1; simp_all; done) | (have e : pl0 = [] := List.eq_nil_of_length_eq_zero (by omega); simp_all; done) | (simp_all; done)))), S⟩
 ·refine Qs (QK E Y Y fun _ B => Qj B Y ?_)
  clear E a B; intro a E
  refine Qz ?_
  refine Ql E Y (fun a9 => ?_) (fun a9 => ?_)
  ·refine Qs (Qj E Y fun _ B => Zp (Qi B Y (vH _) fun _ C => Qb C Y Tryz.isAgg22 S.imm (Qq a0 Y) fun _ D => Qt D Y QE hw0.len fun _ F => Ys F Y Y ?_))
   clear E a B C D F; intro a E
   refine Qz ?_
   refine Ql E Y (fun b0 => ?_) (fun b0 => ?_)
   ·refine Qh (Qi E Y (vH _) fun _ B => Qb B Y Tryz.isAgg22 S.imm (Qq a0 Y) ?_)
    clear E a B; intro a E
    obtain ⟨c0, b1⟩ : ∃ x, (pl0)[0]? = some x := ⟨_, List.getElem?_eq_getElem (by omega)⟩
    obtain ⟨c1, b2, b3⟩ := hw0.at b1
    refine QZ E Y Y QE b2 (by omega) fun _ B => Qb B Y Tryz.isAgg3 S.imm b3 fun _ C => Qj C Y fun _ D => QI (Qi D Y (qr _) fun _ F => Qb F Y Tryz.isAgg3 S.imm (Qq a0 Y) fun _ G => Wb G Y Y fun _ I => Qn I Y ?_)
    clear E a B C D F G I; intro a E
    refine Jo (decide (pn0 ≠ 0)) (fun a2 => ?_) (fun a2 => ?_)
    ·replace E := E.val (t := 28) Y a2
     replace E := E.val (t := 29) Y a2
     replace a2 := of_decide_eq_true a2
     refine Qc E Y Y (Qn E Y fun _ B => Qc B Y Y (Qi B Y (qr _) fun _ C => Qc C Y Y (Qb C Y Tryz.isAgg3 S.imm (Qq a0 Y) ?_)))
     clear E a B C; intro a E
     refine Qc E Y Y ?_
     refine Qk (Qm E S Y Y Y (yV (by omega) (by omega)) lerf ?_)
     clear E a S; rintro a _ w b4 a5 rfl S E
     replace hw0 := hw0.le a5
     replace a0 := a5.2 _ _ a0
     refine Qc E Y Y (Qn E Y fun _ B => Qc B Y Y (QK B Y Y fun _ C => JA C Y Y fun _ D => Qj D Y ?_))
     clear E a B C D; intro a E
     refine YO ?_
     exact Qa E Tryz.results16 Y ⟨_, Y, b4, (a1.trans a5), (cgB (by (clear E S; unfold Jv; first | (have e := (Ud (l := pl0) (by assumption)).1; simp_all; done) | (have e : pl0 = [] := List.eq_nil_of_length_eq_zero (by omega); simp_all; done) | (simp_all; done)))), S⟩
    ·replace E := E.val (t := 28) Y a2
     replace E := E.val (t := 29) Y a2
     replace a2 := of_decide_eq_false a2
     refine Qe E Y Y Y Y fun _ B => Qe B Y Y Y Y fun _ C => Qe C Y Y Y Y fun _ D => Qe D Y Y Y Y fun _ F => Qe F Y Y Y Y fun _ G => Qe G Y Y Y Y fun _ I => JB I Y Y fun _ J => Qj J Y ?_
     clear E a B C D F G I J; intro a E
     refine YO ?_
     exact Qa E Tryz.results16 Y ⟨_, Y, a4, a1, (cgB (by (clear E S; unfold Jv; first | (have e := (Ud (l := pl0) (by assumption)).1; simp_all; done) | (have e : pl0 = [] := List.eq_nil_of_length_eq_zero (by omega); simp_all; done) | (simp_all; done)))), S⟩
   ·refine VC (Qi E Y (qr _) fun _ B => Qb B Y Tryz.isAgg3 S.imm (Qq a0 Y) fun _ C => Wb C Y Y fun _ D => Qn D Y ?_)
    clear E a B C D; intro a E
    refine Jo (decide (pn0 ≠ 0)) (fun a3 => ?_) (fun a3 => ?_)
    ·replace E := E.val (t := 28) Y a3
     replace E := E.val (t := 29) Y a3
     replace a3 := of_decide_eq_true a3
     refine Qc E Y Y (Qn E Y fun _ B => Qc B Y Y (Qi B Y (qr _) fun _ C => Qc C Y Y (Qb C Y Tryz.isAgg3 S.imm (Qq a0 Y) ?_)))
     clear E a B C; intro a E
     refine Qc E Y Y ?_
     refine Qk (Qm E S Y Y Y (yV (by omega) (by omega)) lerf ?_)
     clear E a S; rintro a _ w b5 a6 rfl S E
     replace hw0 := hw0.le a6
     replace a0 := a6.2 _ _ a0
     refine Qc E Y Y (Qn E Y fun _ B => Qc B Y Y (QK B Y Y fun _ C => JA C Y Y fun _ D => Qj D Y ?_))
     clear E a B C D; intro a E
     refine YO ?_
     exact Qa E Tryz.results16 Y ⟨_, Y, b5, (a1.trans a6), (cgB (by (clear E S; unfold Jv; first | (have e := (Ud (l := pl0) (by assumption)).1; simp_all; done) | (have e : pl0 = [] := List.eq_nil_of_length_eq_zero (by omega); simp_all; done) | (simp_all; done)))), S⟩
    ·replace E := E.val (t := 28) Y a3
     replace E := E.val (t := 29) Y a3
     replace a3 := of_decide_eq_false a3
     refine Qe E Y Y Y Y fun _ B => Qe B Y Y Y Y fun _ C => Qe C Y Y Y Y fun _ D => Qe D Y Y Y Y fun _ F => Qe F Y Y Y Y fun _ G => Qe G Y Y Y Y fun _ I => JB I Y Y fun _ J => Qj J Y ?_
     clear E a B C D F G I J; intro a E
     refine YO ?_
     exact Qa E Tryz.results16 Y ⟨_, Y, a4, a1, (cgB (by (clear E S; unfold Jv; first | (have e := (Ud (l := pl0) (by assumption)).1; simp_all; done) | (have e : pl0 = [] := List.eq_nil_of_length_eq_zero (by omega); simp_all; done) | (simp_all; done)))), S⟩
  ·refine Qs (QK E Y Y fun _ B => Qj B Y ?_)
   clear E a B; intro a E
   refine Qz ?_
   refine Ql E Y (fun b6 => ?_) (fun b6 => ?_)
   ·refine Qs (Qi E Y (vH _) fun _ B => Qb B Y Tryz.isAgg22 S.imm (Qq a0 Y) fun _ C => Qn C Y ?_)
    clear E a B C; intro a E
    refine Qk (Qm E S Y Y Y (slices_Contains hw0) lerf ?_)
    clear E a S; rintro a _ w b7 a7 rfl S E
    replace hw0 := hw0.le a7
    replace a0 := a7.2 _ _ a0
    refine Qj E Y ?_
    clear E a; intro a E
    refine YO ?_
    exact Qa E Tryz.results16 Y ⟨_, Y, b7, (a1.trans a7), (cgB (by (clear E S; unfold Jv; first | (have e := (Ud (l := pl0) (by assumption)).1; simp_all; done) | (have e : pl0 = [] := List.eq_nil_of_length_eq_zero (by omega); simp_all; done) | (simp_all; done)))), S⟩
   ·refine Qs (QK E Y Y fun _ B => Qj B Y ?_)
    clear E a B; intro a E
    refine Qz ?_
    refine Ql E Y (fun b8 => ?_) (fun b8 => ?_)
    ·refine Qs (Qn E Y fun _ B => vu B Y Y (by decide) fun _ C => QK C Y Y fun _ D => Qj D Y ?_)
     clear E a B C D; intro a E
     refine YO ?_
     exact Qa E Tryz.results16 Y ⟨_, Y, a4, a1, (cgB (by (clear E S; unfold Jv; first | (have e := (Ud (l := pl0) (by assumption)).1; simp_all; done) | (have e : pl0 = [] := List.eq_nil_of_length_eq_zero (by omega); simp_all; done) | (simp_all; done)))), S⟩
    ·refine J_y (Qi E Y (FA27_0 _) fun _ B => Qb B Y Tryz.isAgg3 S.imm (Qq a0 Y) fun _ C => QK C Y Y fun _ D => Qj D Y ?_)
     clear E a B C D; intro a E
     refine Jj ?_
     exact Qa E Tryz.results16 Y ⟨_, Y, a4, a1, (cgB (by (clear E S; unfold Jv; first | (have e := (Ud (l := pl0) (by assumption)).1; simp_all; done) | (have e : pl0 = [] := List.eq_nil_of_length_eq_zero (by omega); simp_all; done) | (simp_all; done)))), S⟩
theorem GK {M : Hp} {pk0 pn0 : Int} {w0 : Value} {pl0 : List Int} (hw0 : Qy M w0 pl0) (gn0 : -9223372036854775808 ≤ pn0 ∧ pn0 ≤ 9223372036854775807){x1 x2 : Int} :
  Pu Tryz.prog (.func (.func 16) #[.agg #[.int .i64 pk0, .int .i64 pn0, w0]] #[]) M [.int .i64 x1, .int .i64 x2] (fun r M' => r = .bool (Jv pk0 pn0 pl0 x1 x2)) := PuC.pu Tryz.call16 rfl (Pred_at_c hw0 gn0)
theorem jc {M : Hp} {pk0 pn0 : Int} {w0 : Value} {pl0 : List Int} (hw0 : Qy M w0 pl0) (gn0 : -9223372036854775808 ≤ pn0 ∧ pn0 ≤ 9223372036854775807){x1 x2 : Int} :
  Pu Tryz.prog (.func (.func 16) #[] #[]) M [.agg #[.int .i64 pk0, .int .i64 pn0, w0], .int .i64 x1, .int .i64 x2] (fun r M' => r = .bool (Jv pk0 pn0 pl0 x1 x2)) := PuC.pu Tryz.call16 rfl (Pred_at_c hw0 gn0)
theorem jp {M : Hp} {v0 : Value} {l0 : List Int} (h0 : Qy M v0 l0){pk1 pn1 : Int} {w1 : Value} {pl1 : List Int} (hw1 : Qy M w1 pl1) (gn1 : -9223372036854775808 ≤ pn1 ∧ pn1 ≤ 9223372036854775807) (hb : l0.length ≤ 1000000000000) :
  Pu Tryz.prog (.func (.func 7) #[] #[]) M [v0, .agg #[.int .i64 pk1, .int .i64 pn1, w1]] (fun r M' => Qy M' r (QT (Jv pk1 pn1 pl1) 0 l0)) := by
 refine Qd Tryz.func7 Y Tryz.ntmps7 Y Tryz.call7 ?_
 intro a w M1 H hM1 S E
 replace h0 := h0.le hM1
 replace hw1 := hw1.le hM1
 have b0 := h0.bound
 refine Qs ?_
 refine Qk (QA (cs := #[.int .i64 pk1, .int .i64 pn1, w1]) E S Y Y Y ?_)
 clear E a S; rintro a w a5 E S
 obtain ⟨a6, a0, a1, S⟩ := S.freezeB
 replace h0 := h0.le a0
 replace hw1 := hw1.le a0
 refine Qj E Y fun _ B => QI (Qn B Y fun _ C => Za C Y (Tryz.isAgg27 _) (Tryz.sizeOf27 _) S.imm a1 fun _ D => Qv D Y Y ?_)
 clear E a B C D; intro a E
 refine Qk (Qm E S Y Y Y (lo_Filter h0 ⟨Y, fun zx1 zx2 => GK (x1 := zx1) (x2 := zx2) hw1 (by omega)⟩ (by (omega))) lerf ?_)
 clear E a S; rintro a a7 w a2 a3 a4 S E
 refine Qj E Y ?_
 clear E a; intro a E
 refine Jj ?_
 exact Qa E Tryz.results7 Y ⟨_, Y, a2, (a0.trans a3), a4, S⟩
theorem laws_fair {M : Hp} {pk0 pn0 : Int} {w0 : Value} {pl0 : List Int} (hw0 : Qy M w0 pl0) (gn0 : -9223372036854775808 ≤ pn0 ∧ pn0 ≤ 9223372036854775807) :
  Pu Tryz.prog (.func (.func 17) #[] #[]) M [.agg #[.int .i64 pk0, .int .i64 pn0, w0]] (fun r M' => r = .bool (decide ((-1099511627776 < pn0 ∧ pn0 < 1099511627776) ∧ (pl0).length ≤ 300))) := by
 refine Qd Tryz.func17 Y Tryz.ntmps17 Y Tryz.call17 ?_
 intro a w M1 H hM1 S E
 replace hw0 := hw0.le hM1
 have bw0 := hw0.bound
 refine Qs ?_
 refine Qk (QA (cs := #[.int .i64 pk0, .int .i64 pn0, w0]) E S Y Y Y ?_)
 clear E a S; rintro a w a5 E S
 obtain ⟨a3, a2, a4, S⟩ := S.freezeB
 replace hw0 := hw0.le a2
 refine Qj E Y fun _ B => QI (Qi B Y (qr _) fun _ C => Qb C Y Tryz.isAgg3 S.imm (Qq a4 Y) fun _ D => Ys D Y Y fun _ F => Qn F Y ?_)
 clear E a B C D F; intro a E
 refine Jo (decide ((-1099511627776) < pn0)) (fun a1 => ?_) (fun a1 => ?_)
 ·replace E := E.val (t := 5) Y a1
  replace E := E.val (t := 6) Y a1
  replace a1 := of_decide_eq_true a1
  refine Qc E Y Y (Qi E Y (qr _) fun _ B => Qc B Y Y (Qb B Y Tryz.isAgg3 S.imm (Qq a4 Y) fun _ C => Qc C Y Y (Jc C Y Y fun _ D => JA D Y Y fun _ F => Qn F Y ?_)))
  clear E a B C D F; intro a E
  refine Jo (decide (pn0 < 1099511627776)) (fun a0 => ?_) (fun a0 => ?_)
  ·replace E := E.val (t := 9) Y a0
   replace E := E.val (t := 10) Y a0
   replace E := E.val (t := 11) Y a0
   replace a0 := of_decide_eq_true a0
   refine Qc E Y Y (Qi E Y (vH _) fun _ B => Qc B Y Y (Qb B Y Tryz.isAgg22 S.imm (Qq a4 Y) fun _ C => Qc C Y Y (Qt C Y QE hw0.len fun _ D => Qc D Y Y (Vy D Y Y fun _ F => JA F Y Y fun _ G => Qj G Y ?_))))
   clear E a B C D F G; intro a E
   refine Jj ?_
   exact Qa E Tryz.results17 Y ⟨_, Y, a3, a2, (cgB (by ((try clear S); (try clear E); first | assumption | omega | rfl | (simp; done) | (simp_all; done) | (simp [List.take_add_one, *]; done) | grind [List.take_add_one]))), S⟩
  ·replace E := E.val (t := 9) Y a0
   replace E := E.val (t := 10) Y a0
   replace E := E.val (t := 11) Y a0
   replace a0 := of_decide_eq_false a0
   refine Qe E Y Y Y Y fun _ B => Qe B Y Y Y Y fun _ C => Qe C Y Y Y Y fun _ D => Qe D Y Y Y Y fun _ F => JB F Y Y fun _ G => Qj G Y ?_
   clear E a B C D F G; intro a E
   refine Jj ?_
   exact Qa E Tryz.results17 Y ⟨_, Y, a3, a2, (bF (by ((try clear S); (try clear E); first | assumption | omega | rfl | (simp; done) | (simp_all; done) | (simp [List.take_add_one, *]; done) | grind [List.take_add_one]))), S⟩
 ·replace E := E.val (t := 5) Y a1
  replace E := E.val (t := 6) Y a1
  replace a1 := of_decide_eq_false a1
  refine Qe E Y Y Y Y fun _ B => Qe B Y Y Y Y fun _ C => Qe C Y Y Y Y fun _ D => JB D Y Y fun _ F => Qn F Y fun _ G => Qe G Y Y Y Y fun _ I => Qe I Y Y Y Y fun _ J => Qe J Y Y Y Y fun _ K => Qe K Y Y Y Y fun _ L => JB L Y Y fun _ N => Qj N Y ?_
  clear E a B C D F G I J K L N; intro a E
  refine Jj ?_
  exact Qa E Tryz.results17 Y ⟨_, Y, a3, a2, (bF (by ((try clear S); (try clear E); first | assumption | omega | rfl | (simp; done) | (simp_all; done) | (simp [List.take_add_one, *]; done) | grind [List.take_add_one]))), S⟩
theorem laws_just {M : Hp} {kk0 kn0 : Int} (gk0 : -9223372036854775808 ≤ kn0 ∧ kn0 ≤ 9223372036854775807) :
  Pu Tryz.prog (.func (.func 18) #[] #[]) M [.agg #[.int .i64 kk0, .int .i64 kn0]] (fun r M' => r = .bool (decide (-1099511627776 < kn0 ∧ kn0 < 1099511627776))) := by
 refine Qd Tryz.func18 Y Tryz.ntmps18 Y Tryz.call18 ?_
 intro a w M1 H hM1 S E
 refine Qs ?_
 refine Qk (QA (cs := #[.int .i64 kk0, .int .i64 kn0]) E S Y Y Y ?_)
 clear E a S; rintro a w a4 E S
 obtain ⟨a1, a2, a3, S⟩ := S.freezeB
 refine Qj E Y fun _ B => QI (Qi B Y (qq _) fun _ C => Qb C Y Tryz.isAgg3 S.imm (Qq a3 Y) fun _ D => Ys D Y Y fun _ F => Qn F Y ?_)
 clear E a B C D F; intro a E
 refine Jo (decide ((-1099511627776) < kn0)) (fun a0 => ?_) (fun a0 => ?_)
 ·replace E := E.val (t := 5) Y a0
  replace E := E.val (t := 6) Y a0
  replace a0 := of_decide_eq_true a0
  refine Qc E Y Y (Qi E Y (qq _) fun _ B => Qc B Y Y (Qb B Y Tryz.isAgg3 S.imm (Qq a3 Y) fun _ C => Qc C Y Y (Jc C Y Y fun _ D => JA D Y Y fun _ F => Qj F Y ?_)))
  clear E a B C D F; intro a E
  refine Jj ?_
  exact Qa E Tryz.results18 Y ⟨_, Y, a1, a2, (cgB (by ((try clear S); (try clear E); (simp_all; done)))), S⟩
 ·replace E := E.val (t := 5) Y a0
  replace E := E.val (t := 6) Y a0
  replace a0 := of_decide_eq_false a0
  refine Qe E Y Y Y Y fun _ B => Qe B Y Y Y Y fun _ C => Qe C Y Y Y Y fun _ D => JB D Y Y fun _ F => Qj F Y ?_
  clear E a B C D F; intro a E
  refine Jj ?_
  exact Qa E Tryz.results18 Y ⟨_, Y, a1, a2, (bF (by (omega))), S⟩
theorem Uc {M : Hp} {x0 x1 : Int} (hn : x1 ≠ 0) (g1 : -1099511627776 < x1 ∧ x1 < 1099511627776) :
  Pu Tryz.prog (.func (.func 19) #[] #[]) M [.int .i64 x0, .int .i64 x1] (fun r M' => r = .int .i64 (x0 % x1)) := by
 refine Qd Tryz.func19 Y Tryz.ntmps19 Y Tryz.call19 ?_
 intro a w M1 H hM1 S E
 have ht := UN x0 x1 hn
 have ht2 := UN x0 (-x1) (by omega)
 have he : x0 % (-x1) = x0 % x1 := Int.emod_neg ..
 refine Qs (Qj E Y fun _ B => Zp (Qn B Y fun _ C => Jc C Y Y ?_))
 clear E a B C; intro a E
 refine Qz ?_
 refine Ql E Y (fun a0 => ?_) (fun a0 => ?_)
 ·refine Qh (Qn E Y fun _ B => e_negx (m := -x1) B Y (hm := Y) fun _ C => Qj C Y fun _ D => QI (QD 2 D Y fun _ F => vu F Y Y (by omega) fun _ G => Qj G Y fun _ I => Zp (Qn I Y fun _ J => Jc J Y Y ?_)))
  clear E a B C D F G I J; intro a E
  refine Qz ?_
  refine Ql E Y (fun a1 => ?_) (fun a1 => ?_)
  ·refine Qh (QD 2 E Y fun _ B => Qp (m := (Int.tmod x0 (-x1)) + (-x1)) B Y Y fun _ C => Qj C Y fun _ D => QI (QD 2 D Y ?_))
   clear E a B C D; intro a E
   refine Jj ?_
   exact Qa E Tryz.results19 Y ⟨_, Y, M1, lerf, (congrArg (Value.int .i64) (by omega)), S⟩
  ·refine VC (QD 2 E Y ?_)
   clear E a; intro a E
   refine Jj ?_
   exact Qa E Tryz.results19 Y ⟨_, Y, M1, lerf, (congrArg (Value.int .i64) (by omega)), S⟩
 ·refine VC (QD 2 E Y fun _ B => vu B Y Y (by omega) fun _ C => Qj C Y fun _ D => Zp (Qn D Y fun _ F => Jc F Y Y ?_))
  clear E a B C D F; intro a E
  refine Qz ?_
  refine Ql E Y (fun a2 => ?_) (fun a2 => ?_)
  ·refine Qh (QD 2 E Y fun _ B => Qp (m := (Int.tmod x0 x1) + x1) B Y Y fun _ C => Qj C Y fun _ D => QI (QD 2 D Y ?_))
   clear E a B C D; intro a E
   refine Jj ?_
   exact Qa E Tryz.results19 Y ⟨_, Y, M1, lerf, (congrArg (Value.int .i64) (by omega)), S⟩
  ·refine VC (QD 2 E Y ?_)
   clear E a; intro a E
   refine Jj ?_
   exact Qa E Tryz.results19 Y ⟨_, Y, M1, lerf, (congrArg (Value.int .i64) (by omega)), S⟩
theorem laws_light {M : Hp} {v0 : Value} {l0 : List Int} (h0 : Qy M v0 l0){v1 : Value} {l1 : List TSt} (h1 : QX 9 RTS M v1 l1)  :
  Pu Tryz.prog (.func (.func 8) #[] #[]) M [v0, v1] (fun r M' => r = .bool (decide ((l0.length ≤ 200 ∧ l1.length ≤ 40) ∧ ∀ s ∈ l1, YL s))) := by
 refine Qd Tryz.func8 Y Tryz.ntmps8 Y Tryz.call8 ?_
 intro a w M1 H hM1 S E
 replace h0 := h0.le hM1
 replace h1 := h1.le Zq hM1
 have b1 := h1.bound
 have b0 := h0.bound
 refine Qs (Qj E Y fun _ B => Zp (Qn B Y fun _ C => Qt C Y T23 h1.len fun _ D => Qn D Y ?_))
 clear E a B C D; intro a E
 refine ZH ?_
 refine QN (γ := Nat) (fun (k : Nat) a w => ∃ (c5 : Hp), Hp.le M1 c5 ∧ St w c5 (H) ∧ Env a 68 [] [(0, v0), (1, v1), (7, v1), (8, .int .i64 (((l1).length : Nat) : Int)), (9, .int .i64 ((k : Nat) : Int))] ∧ (k ≤ (l1).length) ∧ (∀ s ∈ l1.take k, YL s)) (fun k => ((l1).length) - k) 0 ⟨M1, lerf, S, E.keep ⟨Y, Y, Y, Y, Y, trivial⟩, by (omega), (by simp)⟩ ?_
 try clear E
 try clear S
 try clear a
 try clear w
 rintro k a w ⟨c5, a3, S, E, e4, e5⟩
 replace h0 := h0.le a3
 replace h1 := h1.le Zq a3
 refine Qs (Jc E Y Y ?_)
 clear E a; intro a E
 refine ZJ ?_
 refine Ql E Y (fun d2 => ?_) (fun d2 => ?_)
 ·refine YZ ?_
  obtain ⟨a0, d3⟩ : ∃ x, (l1)[k]? = some x := ⟨_, List.getElem?_eq_getElem (by omega)⟩
  obtain ⟨e6, c7, c8, d4, d5, c6, a2, b9⟩ := RdTS.at h1 d3
  have hrcu_6 := b9.2.2.2.2.2
  replace b9 := And.intro b9.1 (And.intro b9.2.1 (And.intro b9.2.2.1 (And.intro b9.2.2.2.1 b9.2.2.2.2.1)))
  have e7 := a2.bound
  have bw_5 := c6.bound
  refine QZ E Y Y T23 d4 Y fun _ B => e_loadA (cs := [.int .i64 a0.1, .int .i64 a0.2.1, .int .i64 a0.2.2.1, .int .i64 a0.2.2.2.1, .int .i64 a0.2.2.2.2.1, c7, .int .i64 a0.2.2.2.2.2.2.1, .int .i64 a0.2.2.2.2.2.2.2.1, c8]) B Y (Tryz.isAgg32 _) (Tryz.sizeOf32 _) S.imm d5 ?_
  clear E a B; intro a E
  refine Qk (Ja (cs := #[.int .i64 0, .int .i64 0, .int .i64 0, .int .i64 0, .int .i64 0, .slice none 0 0, .int .i64 0, .int .i64 0, .slice none 0 0]) E S Y Tryz.zeroValue32 Y ?_)
  clear E a S; rintro a w d6 E S
  refine Jm (Zv (us := [.int .i64 a0.1, .int .i64 a0.2.1, .int .i64 a0.2.2.1, .int .i64 a0.2.2.2.1, .int .i64 a0.2.2.2.2.1, c7, .int .i64 a0.2.2.2.2.2.2.1, .int .i64 a0.2.2.2.2.2.2.2.1, c8]) E S Y Y (Tryz.sizeOf32 _) Y (by intro u hu; simp only [List.mem_cons, List.not_mem_nil, or_false] at hu; rcases hu with rfl | rfl | rfl | rfl | rfl | rfl | rfl | rfl | rfl <;> first | exact rfl | exact rfl | exact rfl | exact rfl | exact rfl | exact (QX.one' c6) | exact rfl | exact rfl | exact (QX.one' a2)) ?_)
  clear E a S; rintro a w E S
  replace S : St w c5 (Jk d6 (.cells #[.int .i64 a0.1, .int .i64 a0.2.1, .int .i64 a0.2.2.1, .int .i64 a0.2.2.2.1, .int .i64 a0.2.2.2.2.1, c7, .int .i64 a0.2.2.2.2.2.2.1, .int .i64 a0.2.2.2.2.2.2.2.1, c8] 32) :: _) := S
  have S0 := S; clear S
  obtain ⟨d7, a4, a1, S⟩ := S0.freezeB
  clear S0
  replace h0 := h0.le a4
  replace h1 := h1.le Zq a4
  replace c6 := c6.le a4
  replace a2 := a2.le a4
  refine QI (Qi E Y (JR _) fun _ B => Qb B Y Tryz.isAgg22 S.imm (Qq a1 Y) fun _ C => Qt C Y QE a2.len fun _ D => Ys D Y Y fun _ F => Qn F Y ?_)
  clear E a B C D F; intro a E
  refine Jo (decide (50 < (((a0.2.2.2.2.2.2.2.2).length : Nat) : Int))) (fun b3 => ?_) (fun b3 => ?_)
  ·replace E := E.val (t := 16) Y b3
   replace E := E.val (t := 17) Y b3
   replace b3 := of_decide_eq_true b3
   refine Qe E Y Y Y Y fun _ B => Qe B Y Y Y Y fun _ C => Qe C Y Y Y Y fun _ D => Qe D Y Y Y Y fun _ F => JA F Y Y fun _ G => Qn G Y fun _ I => Qe I Y Y Y Y fun _ J => Qe J Y Y Y Y fun _ K => Qe K Y Y Y Y fun _ L => Qe L Y Y Y Y fun _ N => JA N Y Y fun _ O => Qn O Y ?_
   clear E a B C D F G I J K L N O; intro a E
   refine Qe E Y Y Y Y fun _ B => Qe B Y Y Y Y fun _ C => Qe C Y Y Y Y fun _ D => Qe D Y Y Y Y fun _ F => Qe F Y Y Y Y ?_
   clear E a B C D F; intro a E
   refine QO E Y Y Y fun a E => ?_
   refine QO E Y Y Y fun a E => ?_
   refine QO E Y Y Y fun a E => ?_
   refine QO E Y Y Y fun a E => ?_
   refine Qe E Y Y Y Y fun _ B => Qe B Y Y Y Y ?_
   clear E a B; intro a E
   refine QO E Y Y Y fun a E => ?_
   refine QO E Y Y Y fun a E => ?_
   refine QO E Y Y Y fun a E => ?_
   refine QO E Y Y Y fun a E => ?_
   refine Qe E Y Y Y Y fun _ B => JA B Y Y fun _ C => Qn C Y fun _ D => Qe D Y Y Y Y fun _ F => Qe F Y Y Y Y fun _ G => Qe G Y Y Y Y fun _ I => Qe I Y Y Y Y fun _ J => Qe J Y Y Y Y ?_
   clear E a B C D F G I J; intro a E
   refine QO E Y Y Y fun a E => ?_
   refine QO E Y Y Y fun a E => ?_
   refine QO E Y Y Y fun a E => ?_
   refine QO E Y Y Y fun a E => ?_
   refine Qe E Y Y Y Y fun _ B => JA B Y Y ?_
   clear E a B; intro a E
   refine Qz ?_
   refine QY E Y Y ?_
   refine Qs (Qj E Y ?_)
   clear E a; intro a E
   refine J_s (ZC (UA ?_))
   exact Qa E Tryz.results8 Y ⟨_, Y, d7, (a3.trans a4), (bF (by (intro h9; have h8 := h9.2 _ (List.mem_of_getElem? (by assumption)); unfold YL at h8; first | (simp_all; done) | (simp_all; omega)))), S⟩
  ·replace E := E.val (t := 16) Y b3
   replace E := E.val (t := 17) Y b3
   replace b3 := of_decide_eq_false b3
   refine Qc E Y Y (Qi E Y (Vd _) fun _ B => Qc B Y Y (Jt (off := 3) (part := [.int .i64 a0.2.2.2.1, .int .i64 a0.2.2.2.2.1, c7]) B Y (Tryz.isAgg27 _) (Tryz.sizeOf27 _) S.imm a1 Y Y ?_))
   clear E a B; intro a E
   refine Qc E Y Y ?_
   refine Qk (Qm E S Y Y Y (laws_fair c6 (by omega)) lerf ?_)
   clear E a S; rintro a _ w d8 a5 rfl S E
   replace h0 := h0.le a5
   replace h1 := h1.le Zq a5
   replace a2 := a2.le a5
   replace a1 := a5.2 _ _ a1
   refine Qc E Y Y (Ji E Y fun _ B => JB B Y Y fun _ C => Qn C Y ?_)
   clear E a B C; intro a E
   refine Jo (!(decide ((-1099511627776 < a0.2.2.2.2.1 ∧ a0.2.2.2.2.1 < 1099511627776) ∧ (a0.2.2.2.2.2.1).length ≤ 300))) (fun c0 => ?_) (fun c0 => ?_)
   ·replace E := E.val (t := 21) Y c0
    replace E := E.val (t := 22) Y c0
    replace E := E.val (t := 23) Y c0
    refine Qe E Y Y Y Y fun _ B => Qe B Y Y Y Y fun _ C => Qe C Y Y Y Y fun _ D => Qe D Y Y Y Y fun _ F => JA F Y Y fun _ G => Qn G Y fun _ I => Qe I Y Y Y Y fun _ J => Qe J Y Y Y Y fun _ K => Qe K Y Y Y Y fun _ L => Qe L Y Y Y Y fun _ N => Qe N Y Y Y Y ?_
    clear E a B C D F G I J K L N; intro a E
    refine QO E Y Y Y fun a E => ?_
    refine QO E Y Y Y fun a E => ?_
    refine QO E Y Y Y fun a E => ?_
    refine QO E Y Y Y fun a E => ?_
    refine Qe E Y Y Y Y fun _ B => Qe B Y Y Y Y ?_
    clear E a B; intro a E
    refine QO E Y Y Y fun a E => ?_
    refine QO E Y Y Y fun a E => ?_
    refine QO E Y Y Y fun a E => ?_
    refine QO E Y Y Y fun a E => ?_
    refine Qe E Y Y Y Y fun _ B => JA B Y Y fun _ C => Qn C Y fun _ D => Qe D Y Y Y Y fun _ F => Qe F Y Y Y Y fun _ G => Qe G Y Y Y Y fun _ I => Qe I Y Y Y Y fun _ J => Qe J Y Y Y Y ?_
    clear E a B C D F G I J; intro a E
    refine QO E Y Y Y fun a E => ?_
    refine QO E Y Y Y fun a E => ?_
    refine QO E Y Y Y fun a E => ?_
    refine QO E Y Y Y fun a E => ?_
    refine Qe E Y Y Y Y fun _ B => JA B Y Y ?_
    clear E a B; intro a E
    refine Qz ?_
    refine QY E Y Y ?_
    refine Qs (Qj E Y ?_)
    clear E a; intro a E
    refine J_s (ZC (UA ?_))
    exact Qa E Tryz.results8 Y ⟨_, Y, d8, (a3.trans (a4.trans a5)), (bF (by (intro h9; have h8 := h9.2 _ (List.mem_of_getElem? (by assumption)); unfold YL at h8; first | (simp_all; done) | (simp_all; omega)))), S⟩
   ·replace E := E.val (t := 21) Y c0
    replace E := E.val (t := 22) Y c0
    replace E := E.val (t := 23) Y c0
    refine Qc E Y Y (Qi E Y (Vk _) fun _ B => Qc B Y Y (Jt (off := 6) (part := [.int .i64 a0.2.2.2.2.2.2.1, .int .i64 a0.2.2.2.2.2.2.2.1]) B Y (Tryz.isAgg30 _) (Tryz.sizeOf30 _) S.imm a1 Y Y ?_))
    clear E a B; intro a E
    refine Qc E Y Y ?_
    refine Qk (Qm E S Y Y Y (laws_just (by omega)) lerf ?_)
    clear E a S; rintro a _ w d9 a6 rfl S E
    replace h0 := h0.le a6
    replace h1 := h1.le Zq a6
    replace a2 := a2.le a6
    replace a1 := a6.2 _ _ a1
    refine Qc E Y Y (Ji E Y fun _ B => JB B Y Y fun _ C => Qn C Y ?_)
    clear E a B C; intro a E
    refine Jo (!(decide (-1099511627776 < a0.2.2.2.2.2.2.2.1 ∧ a0.2.2.2.2.2.2.2.1 < 1099511627776))) (fun c1 => ?_) (fun c1 => ?_)
    ·replace E := E.val (t := 27) Y c1
     replace E := E.val (t := 28) Y c1
     replace E := E.val (t := 29) Y c1
     refine Qe E Y Y Y Y fun _ B => Qe B Y Y Y Y fun _ C => Qe C Y Y Y Y fun _ D => Qe D Y Y Y Y fun _ F => Qe F Y Y Y Y ?_
     clear E a B C D F; intro a E
     refine QO E Y Y Y fun a E => ?_
     refine QO E Y Y Y fun a E => ?_
     refine QO E Y Y Y fun a E => ?_
     refine QO E Y Y Y fun a E => ?_
     refine Qe E Y Y Y Y fun _ B => Qe B Y Y Y Y ?_
     clear E a B; intro a E
     refine QO E Y Y Y fun a E => ?_
     refine QO E Y Y Y fun a E => ?_
     refine QO E Y Y Y fun a E => ?_
     refine QO E Y Y Y fun a E => ?_
     refine Qe E Y Y Y Y fun _ B => JA B Y Y fun _ C => Qn C Y fun _ D => Qe D Y Y Y Y fun _ F => Qe F Y Y Y Y fun _ G => Qe G Y Y Y Y fun _ I => Qe I Y Y Y Y fun _ J => Qe J Y Y Y Y ?_
     clear E a B C D F G I J; intro a E
     refine QO E Y Y Y fun a E => ?_
     refine QO E Y Y Y fun a E => ?_
     refine QO E Y Y Y fun a E => ?_
     refine QO E Y Y Y fun a E => ?_
     refine Qe E Y Y Y Y fun _ B => JA B Y Y ?_
     clear E a B; intro a E
     refine Qz ?_
     refine QY E Y Y ?_
     refine Qs (Qj E Y ?_)
     clear E a; intro a E
     refine J_s (ZC (UA ?_))
     exact Qa E Tryz.results8 Y ⟨_, Y, d9, (a3.trans (a4.trans (a5.trans a6))), (bF (by (intro h9; have h8 := h9.2 _ (List.mem_of_getElem? (by assumption)); unfold YL at h8; first | (simp_all; done) | (simp_all; omega)))), S⟩
    ·replace E := E.val (t := 27) Y c1
     replace E := E.val (t := 28) Y c1
     replace E := E.val (t := 29) Y c1
     refine Qc E Y Y (Qi E Y (WH _) fun _ B => Qc B Y Y (Qb B Y Tryz.isAgg3 S.imm (Qq a1 Y) ?_))
     clear E a B; intro a E
     refine Qc E Y Y ?_
     refine Qk (Qm E S Y Y Y (Uc (by omega) (by omega)) lerf ?_)
     clear E a S; rintro a _ w e8 a7 rfl S E
     replace h0 := h0.le a7
     replace h1 := h1.le Zq a7
     replace a2 := a2.le a7
     replace a1 := a7.2 _ _ a1
     refine Qc E Y Y (Wc E Y Y fun _ B => Qc B Y Y (Qn B Y ?_))
     clear E a B; intro a E
     refine Jo (decide (29 ≤ a0.1 % 47)) (fun b4 => ?_) (fun b4 => ?_)
     ·replace E := E.val (t := 33) Y b4
      replace E := E.val (t := 34) Y b4
      replace b4 := of_decide_eq_true b4
      refine Qc E Y Y (Qi E Y (WH _) fun _ B => Qc B Y Y (Qb B Y Tryz.isAgg3 S.imm (Qq a1 Y) ?_))
      clear E a B; intro a E
      refine Qc E Y Y ?_
      refine Qk (Qm E S Y Y Y (Uc (by omega) (by omega)) lerf ?_)
      clear E a S; rintro a _ w e0 a9 rfl S E
      replace h0 := h0.le a9
      replace h1 := h1.le Zq a9
      replace a2 := a2.le a9
      replace a1 := a9.2 _ _ a1
      refine Qc E Y Y (Vy E Y Y fun _ B => Qc B Y Y (JA B Y Y fun _ C => Qc C Y Y (Qn C Y ?_)))
      clear E a B C; intro a E
      refine Jo (decide (a0.1 % 47 ≤ 32)) (fun b2 => ?_) (fun b2 => ?_)
      ·replace E := E.val (t := 38) Y b2
       replace E := E.val (t := 39) Y b2
       replace E := E.val (t := 40) Y b2
       replace b2 := of_decide_eq_true b2
       refine Qc E Y Y (Qi E Y (JR _) fun _ B => Qc B Y Y (Qb B Y Tryz.isAgg22 S.imm (Qq a1 Y) fun _ C => Qc C Y Y (Qt C Y QE a2.len fun _ D => Qc D Y Y (QK D Y Y fun _ F => Qc F Y Y (JA F Y Y fun _ G => JB G Y Y fun _ I => Qn I Y ?_)))))
       clear E a B C D F G I; intro a E
       refine Jo (decide ((((a0.2.2.2.2.2.2.2.2).length : Nat) : Int) = 0)) (fun a8 => ?_) (fun a8 => ?_)
       ·replace E := E.val (t := 44) Y a8
        replace E := E.val (t := 45) Y a8
        replace E := E.val (t := 46) Y a8
        replace E := E.val (t := 47) Y a8
        replace a8 := of_decide_eq_true a8
        refine Qe E Y Y Y Y fun _ B => Qe B Y Y Y Y fun _ C => Qe C Y Y Y Y fun _ D => Qe D Y Y Y Y fun _ F => Qe F Y Y Y Y ?_
        clear E a B C D F; intro a E
        refine QO E Y Y Y fun a E => ?_
        refine QO E Y Y Y fun a E => ?_
        refine QO E Y Y Y fun a E => ?_
        refine QO E Y Y Y fun a E => ?_
        refine Qe E Y Y Y Y fun _ B => JA B Y Y ?_
        clear E a B; intro a E
        refine Qz ?_
        refine QY E Y Y ?_
        refine Qs (Qj E Y ?_)
        clear E a; intro a E
        refine J_s (ZC (UA ?_))
        exact Qa E Tryz.results8 Y ⟨_, Y, e0, (a3.trans (a4.trans (a5.trans (a6.trans (a7.trans a9))))), (bF (by (intro h9; have h8 := h9.2 _ (List.mem_of_getElem? (by assumption)); unfold YL at h8; first | (simp_all; done) | (simp_all; omega)))), S⟩
       ·replace E := E.val (t := 44) Y a8
        replace E := E.val (t := 45) Y a8
        replace E := E.val (t := 46) Y a8
        replace E := E.val (t := 47) Y a8
        replace a8 := of_decide_eq_false a8
        refine Qc E Y Y (Qi E Y (WH _) fun _ B => Qc B Y Y (Qb B Y Tryz.isAgg3 S.imm (Qq a1 Y) ?_))
        clear E a B; intro a E
        refine Qc E Y Y ?_
        refine Qk (Qm E S Y Y Y (Uc (by omega) (by omega)) lerf ?_)
        clear E a S; rintro a _ w c9 c2 rfl S E
        replace h0 := h0.le c2
        replace h1 := h1.le Zq c2
        replace a2 := a2.le c2
        replace a1 := c2.2 _ _ a1
        refine Qc E Y Y (QK E Y Y fun _ B => Qc B Y Y (Qn B Y ?_))
        clear E a B; intro a E
        refine Jo (decide (a0.1 % 47 = 46)) (fun b5 => ?_) (fun b5 => ?_)
        ·replace E := E.val (t := 51) Y b5
         replace E := E.val (t := 52) Y b5
         replace b5 := of_decide_eq_true b5
         refine Qc E Y Y (Qi E Y (JR _) fun _ B => Qc B Y Y (Qb B Y Tryz.isAgg22 S.imm (Qq a1 Y) fun _ C => Qc C Y Y (Qt C Y QE a2.len fun _ D => Qc D Y Y (QK D Y Y fun _ F => Qc F Y Y (JA F Y Y fun _ G => JB G Y Y ?_)))))
         clear E a B C D F G; intro a E
         refine Qz ?_
         refine Ql E Y (fun e1 => ?_) (fun e1 => ?_)
         ·refine Qs (Qj E Y ?_)
          clear E a; intro a E
          refine J_s (ZC (UA ?_))
          exact Qa E Tryz.results8 Y ⟨_, Y, c9, (a3.trans (a4.trans (a5.trans (a6.trans (a7.trans (a9.trans c2)))))), (bF (by (intro h9; have h8 := h9.2 _ (List.mem_of_getElem? (by assumption)); unfold YL at h8; first | (simp_all; done) | (simp_all; omega)))), S⟩
         ·refine zu (Qp (m := ((k + 1 : Nat) : Int)) E Y Y fun _ B => Qn B Y ?_)
          clear E a B; intro a E
          refine Qz ?_
          exact ⟨k + 1, ⟨c9, (a3.trans (a4.trans (a5.trans (a6.trans (a7.trans (a9.trans c2)))))), S, E.keep ⟨Y, Y, Y, Y, Y, trivial⟩, by (omega), (by refine tkA (by assumption) (by assumption) ?_; unfold YL; first | (simp_all; done) | (simp_all; omega))⟩, by omega⟩
        ·replace E := E.val (t := 51) Y b5
         replace E := E.val (t := 52) Y b5
         replace b5 := of_decide_eq_false b5
         refine Qe E Y Y Y Y fun _ B => Qe B Y Y Y Y fun _ C => Qe C Y Y Y Y fun _ D => Qe D Y Y Y Y fun _ F => Qc F Y Y (JB F Y Y fun _ G => JB G Y Y ?_)
         clear E a B C D F G; intro a E
         refine Qz ?_
         refine QF E Y Y ?_
         refine zu (Qp (m := ((k + 1 : Nat) : Int)) E Y Y fun _ B => Qn B Y ?_)
         clear E a B; intro a E
         refine Qz ?_
         exact ⟨k + 1, ⟨c9, (a3.trans (a4.trans (a5.trans (a6.trans (a7.trans (a9.trans c2)))))), S, E.keep ⟨Y, Y, Y, Y, Y, trivial⟩, by (omega), (by refine tkA (by assumption) (by assumption) ?_; unfold YL; first | (simp_all; done) | (simp_all; omega))⟩, by omega⟩
      ·replace E := E.val (t := 38) Y b2
       replace E := E.val (t := 39) Y b2
       replace E := E.val (t := 40) Y b2
       replace b2 := of_decide_eq_false b2
       refine Qe E Y Y Y Y fun _ B => Qe B Y Y Y Y fun _ C => Qe C Y Y Y Y fun _ D => Qe D Y Y Y Y fun _ F => Qc F Y Y (JB F Y Y fun _ G => JB G Y Y fun _ I => Qn I Y fun _ J => Qc J Y Y (Qi J Y (WH _) fun _ K => Qc K Y Y (Qb K Y Tryz.isAgg3 S.imm (Qq a1 Y) ?_)))
       clear E a B C D F G I J K; intro a E
       refine Qc E Y Y ?_
       refine Qk (Qm E S Y Y Y (Uc (by omega) (by omega)) lerf ?_)
       clear E a S; rintro a _ w d0 c3 rfl S E
       replace h0 := h0.le c3
       replace h1 := h1.le Zq c3
       replace a2 := a2.le c3
       replace a1 := c3.2 _ _ a1
       refine Qc E Y Y (QK E Y Y fun _ B => Qc B Y Y (Qn B Y ?_))
       clear E a B; intro a E
       refine Jo (decide (a0.1 % 47 = 46)) (fun b6 => ?_) (fun b6 => ?_)
       ·replace E := E.val (t := 51) Y b6
        replace E := E.val (t := 52) Y b6
        replace b6 := of_decide_eq_true b6
        refine Qc E Y Y (Qi E Y (JR _) fun _ B => Qc B Y Y (Qb B Y Tryz.isAgg22 S.imm (Qq a1 Y) fun _ C => Qc C Y Y (Qt C Y QE a2.len fun _ D => Qc D Y Y (QK D Y Y fun _ F => Qc F Y Y (JA F Y Y fun _ G => JB G Y Y ?_)))))
        clear E a B C D F G; intro a E
        refine Qz ?_
        refine Ql E Y (fun e2 => ?_) (fun e2 => ?_)
        ·refine Qs (Qj E Y ?_)
         clear E a; intro a E
         refine J_s (ZC (UA ?_))
         exact Qa E Tryz.results8 Y ⟨_, Y, d0, (a3.trans (a4.trans (a5.trans (a6.trans (a7.trans (a9.trans c3)))))), (bF (by (intro h9; have h8 := h9.2 _ (List.mem_of_getElem? (by assumption)); unfold YL at h8; first | (simp_all; done) | (simp_all; omega)))), S⟩
        ·refine zu (Qp (m := ((k + 1 : Nat) : Int)) E Y Y fun _ B => Qn B Y ?_)
         clear E a B; intro a E
         refine Qz ?_
         exact ⟨k + 1, ⟨d0, (a3.trans (a4.trans (a5.trans (a6.trans (a7.trans (a9.trans c3)))))), S, E.keep ⟨Y, Y, Y, Y, Y, trivial⟩, by (omega), (by refine tkA (by assumption) (by assumption) ?_; unfold YL; first | (simp_all; done) | (simp_all; omega))⟩, by omega⟩
       ·replace E := E.val (t := 51) Y b6
        replace E := E.val (t := 52) Y b6
        replace b6 := of_decide_eq_false b6
        refine Qe E Y Y Y Y fun _ B => Qe B Y Y Y Y fun _ C => Qe C Y Y Y Y fun _ D => Qe D Y Y Y Y fun _ F => Qc F Y Y (JB F Y Y fun _ G => JB G Y Y ?_)
        clear E a B C D F G; intro a E
        refine Qz ?_
        refine QF E Y Y ?_
        refine zu (Qp (m := ((k + 1 : Nat) : Int)) E Y Y fun _ B => Qn B Y ?_)
        clear E a B; intro a E
        refine Qz ?_
        exact ⟨k + 1, ⟨d0, (a3.trans (a4.trans (a5.trans (a6.trans (a7.trans (a9.trans c3)))))), S, E.keep ⟨Y, Y, Y, Y, Y, trivial⟩, by (omega), (by refine tkA (by assumption) (by assumption) ?_; unfold YL; first | (simp_all; done) | (simp_all; omega))⟩, by omega⟩
     ·replace E := E.val (t := 33) Y b4
      replace E := E.val (t := 34) Y b4
      replace b4 := of_decide_eq_false b4
      refine Qe E Y Y Y Y fun _ B => Qe B Y Y Y Y fun _ C => Qe C Y Y Y Y fun _ D => Qe D Y Y Y Y fun _ F => Qc F Y Y (JB F Y Y fun _ G => Qc G Y Y (Qn G Y fun _ I => Qe I Y Y Y Y fun _ J => Qe J Y Y Y Y fun _ K => Qe K Y Y Y Y fun _ L => Qe L Y Y Y Y fun _ N => Qc N Y Y (JB N Y Y fun _ O => JB O Y Y ?_)))
      clear E a B C D F G I J K L N O; intro a E
      refine Qn E Y fun _ B => Qc B Y Y (Qi B Y (WH _) fun _ C => Qc C Y Y (Qb C Y Tryz.isAgg3 S.imm (Qq a1 Y) ?_))
      clear E a B C; intro a E
      refine Qc E Y Y ?_
      refine Qk (Qm E S Y Y Y (Uc (by omega) (by omega)) lerf ?_)
      clear E a S; rintro a _ w d1 c4 rfl S E
      replace h0 := h0.le c4
      replace h1 := h1.le Zq c4
      replace a2 := a2.le c4
      replace a1 := c4.2 _ _ a1
      refine Qc E Y Y (QK E Y Y fun _ B => Qc B Y Y (Qn B Y ?_))
      clear E a B; intro a E
      refine Jo (decide (a0.1 % 47 = 46)) (fun b7 => ?_) (fun b7 => ?_)
      ·replace E := E.val (t := 51) Y b7
       replace E := E.val (t := 52) Y b7
       replace b7 := of_decide_eq_true b7
       refine Qc E Y Y (Qi E Y (JR _) fun _ B => Qc B Y Y (Qb B Y Tryz.isAgg22 S.imm (Qq a1 Y) fun _ C => Qc C Y Y (Qt C Y QE a2.len fun _ D => Qc D Y Y (QK D Y Y fun _ F => Qc F Y Y (JA F Y Y fun _ G => JB G Y Y ?_)))))
       clear E a B C D F G; intro a E
       refine Qz ?_
       refine Ql E Y (fun e3 => ?_) (fun e3 => ?_)
       ·refine Qs (Qj E Y ?_)
        clear E a; intro a E
        refine J_s (ZC (UA ?_))
        exact Qa E Tryz.results8 Y ⟨_, Y, d1, (a3.trans (a4.trans (a5.trans (a6.trans (a7.trans c4))))), (bF (by (intro h9; have h8 := h9.2 _ (List.mem_of_getElem? (by assumption)); unfold YL at h8; first | (simp_all; done) | (simp_all; omega)))), S⟩
       ·refine zu (Qp (m := ((k + 1 : Nat) : Int)) E Y Y fun _ B => Qn B Y ?_)
        clear E a B; intro a E
        refine Qz ?_
        exact ⟨k + 1, ⟨d1, (a3.trans (a4.trans (a5.trans (a6.trans (a7.trans c4))))), S, E.keep ⟨Y, Y, Y, Y, Y, trivial⟩, by (omega), (by refine tkA (by assumption) (by assumption) ?_; unfold YL; first | (simp_all; done) | (simp_all; omega))⟩, by omega⟩
      ·replace E := E.val (t := 51) Y b7
       replace E := E.val (t := 52) Y b7
       replace b7 := of_decide_eq_false b7
       refine Qe E Y Y Y Y fun _ B => Qe B Y Y Y Y fun _ C => Qe C Y Y Y Y fun _ D => Qe D Y Y Y Y fun _ F => Qc F Y Y (JB F Y Y fun _ G => JB G Y Y ?_)
       clear E a B C D F G; intro a E
       refine Qz ?_
       refine QF E Y Y ?_
       refine zu (Qp (m := ((k + 1 : Nat) : Int)) E Y Y fun _ B => Qn B Y ?_)
       clear E a B; intro a E
       refine Qz ?_
       exact ⟨k + 1, ⟨d1, (a3.trans (a4.trans (a5.trans (a6.trans (a7.trans c4))))), S, E.keep ⟨Y, Y, Y, Y, Y, trivial⟩, by (omega), (by refine tkA (by assumption) (by assumption) ?_; unfold YL; first | (simp_all; done) | (simp_all; omega))⟩, by omega⟩
 ·refine VJ (Qn E Y fun _ B => Qt B Y QE h0.len fun _ C => Vy C Y Y fun _ D => Qn D Y ?_)
  clear E a B C D; intro a E
  refine Jo (decide ((((l0).length : Nat) : Int) ≤ 200)) (fun b8 => ?_) (fun b8 => ?_)
  ·replace E := E.val (t := 62) Y b8
   replace E := E.val (t := 63) Y b8
   replace b8 := of_decide_eq_true b8
   refine Qc E Y Y (Qn E Y fun _ B => Qc B Y Y (Qt B Y T23 h1.len fun _ C => Qc C Y Y (Vy C Y Y fun _ D => JA D Y Y fun _ F => Qj F Y ?_)))
   clear E a B C D F; intro a E
   refine Jj ?_
   exact Qa E Tryz.results8 Y ⟨_, Y, c5, a3, (cgB (by ((refine decide_eq_decide.2 ⟨fun h => ⟨by omega, tkE (by assumption) (by omega)⟩, fun h => by omega⟩)))), S⟩
  ·replace E := E.val (t := 62) Y b8
   replace E := E.val (t := 63) Y b8
   replace b8 := of_decide_eq_false b8
   refine Qe E Y Y Y Y fun _ B => Qe B Y Y Y Y fun _ C => Qe C Y Y Y Y fun _ D => JB D Y Y fun _ F => Qj F Y ?_
   clear E a B C D F; intro a E
   refine Jj ?_
   exact Qa E Tryz.results8 Y ⟨_, Y, c5, a3, (bF (by ((intro h9; omega)))), S⟩
theorem ZM {M : Hp} {x0 x1 : Int} (hn : 0 < x1) (g1 : -1099511627776 < x1 ∧ x1 < 1099511627776) :
  Pu Tryz.prog (.func (.func 19) #[] #[]) M [.int .i64 x0, .int .i64 x1] (fun r M' => r = .int .i64 (((x0 % x1).toNat : Nat) : Int)) := by
 refine Qd Tryz.func19 Y Tryz.ntmps19 Y Tryz.call19 ?_
 intro a w M1 H hM1 S E
 have hn0 : x1 ≠ 0 := by omega
 have ht := UN x0 x1 hn0
 have ht2 := UN x0 (-x1) (by omega)
 have he : x0 % (-x1) = x0 % x1 := Int.emod_neg ..
 refine Qs (Qj E Y fun _ B => Zp (Qn B Y fun _ C => Jc C Y Y ?_))
 clear E a B C; intro a E
 refine Qz ?_
 refine Ql E Y (fun a0 => ?_) (fun a0 => ?_)
 ·refine Qh (Qn E Y fun _ B => e_negx (m := -x1) B Y (hm := Y) fun _ C => Qj C Y fun _ D => QI (QD 2 D Y fun _ F => vu F Y Y (by omega) fun _ G => Qj G Y fun _ I => Zp (Qn I Y fun _ J => Jc J Y Y ?_)))
  clear E a B C D F G I J; intro a E
  refine Qz ?_
  refine Ql E Y (fun a1 => ?_) (fun a1 => ?_)
  ·refine Qh (QD 2 E Y fun _ B => Qp (m := (Int.tmod x0 (-x1)) + (-x1)) B Y Y fun _ C => Qj C Y fun _ D => QI (QD 2 D Y ?_))
   clear E a B C D; intro a E
   refine Jj ?_
   exact Qa E Tryz.results19 Y ⟨_, Y, M1, lerf, (congrArg (Value.int .i64) (by omega)), S⟩
  ·refine VC (QD 2 E Y ?_)
   clear E a; intro a E
   refine Jj ?_
   exact Qa E Tryz.results19 Y ⟨_, Y, M1, lerf, (congrArg (Value.int .i64) (by omega)), S⟩
 ·refine VC (QD 2 E Y fun _ B => vu B Y Y (by omega) fun _ C => Qj C Y fun _ D => Zp (Qn D Y fun _ F => Jc F Y Y ?_))
  clear E a B C D F; intro a E
  refine Qz ?_
  refine Ql E Y (fun a2 => ?_) (fun a2 => ?_)
  ·refine Qh (QD 2 E Y fun _ B => Qp (m := (Int.tmod x0 x1) + x1) B Y Y fun _ C => Qj C Y fun _ D => QI (QD 2 D Y ?_))
   clear E a B C D; intro a E
   refine Jj ?_
   exact Qa E Tryz.results19 Y ⟨_, Y, M1, lerf, (congrArg (Value.int .i64) (by omega)), S⟩
  ·refine VC (QD 2 E Y ?_)
   clear E a; intro a E
   refine Jj ?_
   exact Qa E Tryz.results19 Y ⟨_, Y, M1, lerf, (congrArg (Value.int .i64) (by omega)), S⟩
theorem lo_Reject {M : Hp} {v0 : Value} {l0 : List Int} (h0 : Qy M v0 l0){v1 : Value} {f1 : Int → Int → Bool} (h1 : jP Tryz.prog v1 M f1) (hb : l0.length ≤ 1000000000000) :
  Pu Tryz.prog (.func (.func 130) #[] #[]) M [v0, v1] (fun r M' => Qy M' r (QT (fun x i => !f1 x i) 0 l0)) := by
 refine Qd Tryz.func130 Y Tryz.ntmps130 Y Tryz.call130 ?_
 intro a w M1 H hM1 S E
 replace h0 := h0.le hM1
 replace h1 := h1.le hM1
 have b0 := h0.bound
 refine Qs (Qj E Y ?_)
 clear E a; intro a E
 refine QI ?_
 refine Qk (QV (ys := []) E S Y QE Y Y Y ?_)
 clear E a S; rintro a w b6 E S
 refine Qj E Y fun _ B => Zp (Qn B Y fun _ C => Qt C Y QE h0.len fun _ D => Qn D Y ?_)
 clear E a B C D; intro a E
 refine ZH ?_
 replace S := S.re1 (l' := QT (fun x i => !f1 x i) 0 (l0.take 0)) (by (simp [QT]; done))
 refine QN (γ := Nat) (fun (k : Nat) a w => ∃ (a1 : Hp) (u5 : Value), Hp.le M1 a1 ∧ St w a1 (Jg 3 u5 (QT (fun x i => !f1 x i) 0 (l0.take k)) :: H) ∧ Env a 30 [] [(0, v0), (1, v1), (5, u5), (9, .int .i64 (((l0).length : Nat) : Int)), (10, .int .i64 ((k : Nat) : Int))] ∧ (k ≤ (l0).length)) (fun k => ((l0).length) - k) 0 ⟨M1, _, lerf, S, E.keep ⟨Y, Y, Y, Y, Y, trivial⟩, by (omega)⟩ ?_
 try clear E
 try clear S
 try clear a
 try clear w
 rintro k a w ⟨a1, u5, a0, S, E, b7⟩
 replace h0 := h0.le a0
 replace h1 := h1.le a0
 have hfl := Zs (fun x i => !f1 x i) (l0.take k) 0; simp only [List.length_take] at hfl
 refine Qs (Jc E Y Y ?_)
 clear E a; intro a E
 refine ZJ ?_
 refine Ql E Y (fun a6 => ?_) (fun a6 => ?_)
 ·refine YZ (QD 2 E Y fun _ B => QI (QD 3 B Y ?_))
  clear E a B; intro a E
  obtain ⟨a2, a4⟩ : ∃ x, (l0)[k]? = some x := ⟨_, List.getElem?_eq_getElem (by omega)⟩
  obtain ⟨b8, a7, a8⟩ := h0.at a4
  refine QZ E Y Y QE a7 Y fun _ B => Qb B Y Tryz.isAgg3 S.imm a8 fun _ C => Qn C Y ?_
  clear E a B C; intro a E
  refine Qk (Qm E S Y Y Y (h1.2 a2 ((k : Nat) : Int)) lerf ?_)
  clear E a S; rintro a _ w a5 a3 rfl S E
  replace h0 := h0.le a3
  refine Ji E Y ?_
  clear E a; intro a E
  refine Qz ?_
  refine Jf E Y (fun a9 => ?_) (fun a9 => ?_)
  ·refine Qh ?_
   refine QD 3 E Y ?_
   clear E a; intro a E
   obtain ⟨b9, b1, b2⟩ := h0.at a4
   refine QZ E Y Y QE b1 Y fun _ B => Qb B Y Tryz.isAgg3 S.imm b2 ?_
   clear E a B; intro a E
   refine Qk (QV (ys := [a2]) E S Y QE Y Y Y ?_)
   clear E a S; rintro a w c0 E S
   replace S := S.front1.front1
   refine Qk (JF (xs := QT (fun x i => !f1 x i) 0 (l0.take k)) (ys := [a2]) E S Y Y Y QE (by (simp; omega)) ?_)
   clear E a S; rintro a w c1 E S
   refine Qj E Y fun _ B => Wj (Qp (m := ((k + 1 : Nat) : Int)) B Y Y fun _ C => Qn C Y ?_)
   clear E a B C; intro a E
   refine Qz ?_
   replace S := S.re1 (l' := QT (fun x i => !f1 x i) 0 (l0.take (k + 1))) (by (rw [Zb (by assumption)]; simp [*]; done))
   exact ⟨k + 1, ⟨a5, _, (a0.trans a3), S, E.keep ⟨Y, Y, Y, Y, Y, trivial⟩, by (omega)⟩, by omega⟩
  ·refine Qx ?_
   refine WN (Qp (m := ((k + 1 : Nat) : Int)) E Y Y fun _ B => Qn B Y ?_)
   clear E a B; intro a E
   refine Qz ?_
   replace S := S.re1 (l' := QT (fun x i => !f1 x i) 0 (l0.take (k + 1))) (by (rw [Zb (by assumption)]; simp [*]; done))
   exact ⟨k + 1, ⟨a5, _, (a0.trans a3), S, E.keep ⟨Y, Y, Y, Y, Y, trivial⟩, by (omega)⟩, by omega⟩
 ·refine VJ (QD 2 E Y ?_)
  clear E a; intro a E
  refine Jj ?_
  have S0 := S; clear S
  obtain ⟨b3, b4, b5, S⟩ := S0.freezeI (by (have hfl := Zs (fun x i => !f1 x i) (l0.take k) 0; simp only [List.length_take] at hfl; omega))
  clear S0
  exact Qa E Tryz.results130 Y ⟨_, Y, b3, (a0.trans b4), (QX.eqL b5 (by (rw [List.take_of_length_le (by omega)]))), S⟩
theorem impl_Reject {M : Hp} {v0 : Value} {l0 : List Int} (h0 : Qy M v0 l0){pk1 pn1 : Int} {w1 : Value} {pl1 : List Int} (hw1 : Qy M w1 pl1) (gn1 : -9223372036854775808 ≤ pn1 ∧ pn1 ≤ 9223372036854775807) (hb : l0.length ≤ 1000000000000) :
  Pu Tryz.prog (.func (.func 46) #[] #[]) M [v0, .agg #[.int .i64 pk1, .int .i64 pn1, w1]] (fun r M' => Qy M' r (QT (fun x i => !(Jv pk1 pn1 pl1) x i) 0 l0)) := by
 refine Qd Tryz.func46 Y Tryz.ntmps46 Y Tryz.call46 ?_
 intro a w M1 H hM1 S E
 replace h0 := h0.le hM1
 replace hw1 := hw1.le hM1
 have b0 := h0.bound
 refine Qs ?_
 refine Qk (QA (cs := #[.int .i64 pk1, .int .i64 pn1, w1]) E S Y Y Y ?_)
 clear E a S; rintro a w a5 E S
 obtain ⟨a6, a0, a1, S⟩ := S.freezeB
 replace h0 := h0.le a0
 replace hw1 := hw1.le a0
 refine Qj E Y fun _ B => QI (Qn B Y fun _ C => Za C Y (Tryz.isAgg27 _) (Tryz.sizeOf27 _) S.imm a1 fun _ D => Qv D Y Y ?_)
 clear E a B C D; intro a E
 refine Qk (Qm E S Y Y Y (lo_Reject h0 ⟨Y, fun zx1 zx2 => GK (x1 := zx1) (x2 := zx2) hw1 (by omega)⟩ (by (omega))) lerf ?_)
 clear E a S; rintro a a7 w a2 a3 a4 S E
 refine Qj E Y ?_
 clear E a; intro a E
 refine Jj ?_
 exact Qa E Tryz.results46 Y ⟨_, Y, a2, (a0.trans a3), a4, S⟩
theorem lo_Map {M : Hp} {v0 : Value} {l0 : List Int} (h0 : Qy M v0 l0){v1 : Value} {f1 : Int → Int → Int} (h1 : PF2I Tryz.prog v1 M f1) (hb : l0.length ≤ 1000000000000) :
  Pu Tryz.prog (.func (.func 131) #[] #[]) M [v0, v1] (fun r M' => Qy M' r (Yk f1 0 l0)) := by
 refine Qd Tryz.func131 Y Tryz.ntmps131 Y Tryz.call131 ?_
 intro a w M1 H hM1 S E
 replace h0 := h0.le hM1
 replace h1 := h1.le hM1
 have b0 := h0.bound
 refine Qs (Qj E Y fun _ B => QI (Qn B Y fun _ C => Qt C Y QE h0.len ?_))
 clear E a B C; intro a E
 refine Qk (YM (k := (l0).length) E S Y Y Y QE (by omega) (by omega) (by omega) (by omega) ?_)
 clear E a S; rintro a w a2 E S
 replace S := S.madeI
 refine Qj E Y fun _ B => Zp (Qn B Y fun _ C => Qt C Y QE h0.len fun _ D => Qn D Y ?_)
 clear E a B C D; intro a E
 refine ZH ?_
 replace S := S.re1 (l' := Yk f1 0 (l0.take 0) ++ List.replicate (l0.length - (Yk f1 0 (l0.take 0)).length) 0) (by (simp [Yk]; done))
 refine QN (γ := Nat) (fun (k : Nat) a w => ∃ (a1 : Hp), Hp.le M1 a1 ∧ St w a1 (Jg 3 a2 (Yk f1 0 (l0.take k) ++ List.replicate (l0.length - (Yk f1 0 (l0.take k)).length) 0) :: H) ∧ Env a 27 [] [(0, v0), (1, v1), (5, a2), (11, .int .i64 (((l0).length : Nat) : Int)), (12, .int .i64 ((k : Nat) : Int))] ∧ (k ≤ (l0).length)) (fun k => ((l0).length) - k) 0 ⟨M1, lerf, S, E.keep ⟨Y, Y, Y, Y, Y, trivial⟩, by (omega)⟩ ?_
 try clear E
 try clear S
 try clear a
 try clear w
 rintro k a w ⟨a1, a0, S, E, b5⟩
 replace h0 := h0.le a0
 replace h1 := h1.le a0
 have hml := WW f1 (l0.take k) 0; simp only [List.length_take] at hml; have hml2 : (Yk f1 0 (l0.take k)).length = k := by omega
 refine Qs (Jc E Y Y ?_)
 clear E a; intro a E
 refine ZJ ?_
 refine Ql E Y (fun a4 => ?_) (fun a4 => ?_)
 ·refine YZ (QD 2 E Y fun _ B => zw (QD 5 B Y ?_))
  clear E a B; intro a E
  obtain ⟨a5, a6⟩ : ∃ x, (l0)[k]? = some x := ⟨_, List.getElem?_eq_getElem (by omega)⟩
  obtain ⟨b6, a7, a8⟩ := h0.at a6
  refine QZ E Y Y QE a7 Y fun _ B => Qb B Y Tryz.isAgg3 S.imm a8 fun _ C => Qn C Y ?_
  clear E a B C; intro a E
  refine Qk (Qm E S Y Y Y (h1.2 a5 ((k : Nat) : Int)) lerf ?_)
  clear E a S; rintro a _ w a9 b1 rfl S E
  obtain ⟨b7, a3⟩ := S.ptrC (k := k) (by (simp; omega))
  refine QZ E Y Y QE a3 Y ?_
  clear E a; intro a E
  refine Jm (YH E S Y Y (Tryz.sizeOf3 _) a3 ?_)
  clear E a S; rintro a w E S
  refine Wj (Qp (m := ((k + 1 : Nat) : Int)) E Y Y fun _ B => Qn B Y ?_)
  clear E a B; intro a E
  refine Qz ?_
  replace S := S.re1 (l' := Yk f1 0 (l0.take (k + 1)) ++ List.replicate (l0.length - (Yk f1 0 (l0.take (k + 1))).length) 0) (by (have e := qE (p := Yk f1 0 (l0.take k)) (n := l0.length) (by omega) (mapI_succ (f := f1) (by assumption)); rw [hml2] at e; rw [hml2]; exact e))
  exact ⟨k + 1, ⟨a9, (a0.trans b1), S, E.keep ⟨Y, Y, Y, Y, Y, trivial⟩, by (omega)⟩, by omega⟩
 ·refine VJ (QD 2 E Y ?_)
  clear E a; intro a E
  refine Jj ?_
  have S0 := S; clear S
  obtain ⟨b2, b3, b4, S⟩ := S0.freezeI (by (have hml := WW f1 (l0.take k) 0; simp only [List.length_take] at hml; simp; omega))
  clear S0
  exact Qa E Tryz.results131 Y ⟨_, Y, b2, (a0.trans b3), (QX.eqL b4 (by (have hml := WW f1 (l0.take k) 0; simp only [List.length_take] at hml; rw [show l0.length - (Yk f1 0 (l0.take k)).length = 0 by omega, List.take_of_length_le (by omega)]; simp))), S⟩
theorem Key_at_c {M : Hp} {kk0 kn0 : Int} (gk0 : -9223372036854775808 ≤ kn0 ∧ kn0 ≤ 9223372036854775807){x1 x2 : Int} :
  PuC Tryz.prog 132 M [.agg #[.int .i64 kk0, .int .i64 kn0], .int .i64 x1, .int .i64 x2] (fun r M' => r = .int .i64 (JL kk0 kn0 x1 x2)) := by
 refine Wi Tryz.func132 Y Tryz.ntmps132 Y ?_
 intro a w M1 H hM1 S E
 refine Qs ?_
 refine Qk (QA (cs := #[.int .i64 kk0, .int .i64 kn0]) E S Y Y Y ?_)
 clear E a S; rintro a w b1 E S
 obtain ⟨a2, a1, a0, S⟩ := S.freezeB
 refine Qj E Y fun _ B => Zp (Qi B Y (FA30_0 _) fun _ C => Qb C Y Tryz.isAgg3 S.imm (Qq a0 Y) fun _ D => J_w (QK D Y Y fun _ F => Qj F Y ?_))
 clear E a B C D F; intro a E
 refine Qz ?_
 refine Ql E Y (fun a4 => ?_) (fun a4 => ?_)
 ·refine Qs (Qn E Y fun _ B => Qi B Y (qq _) fun _ C => Qb C Y Tryz.isAgg3 S.imm (Qq a0 Y) fun _ D => e_add D Y Y fun _ F => Qj F Y ?_)
  clear E a B C D F; intro a E
  refine YO ?_
  exact Qa E Tryz.results132 Y ⟨_, Y, a2, a1, (congrArg (Value.int .i64) (by (clear E S; unfold JL w64; first | (simp [*]; done) | (simp_all; done)))), S⟩
 ·refine Qs (QK E Y Y fun _ B => Qj B Y ?_)
  clear E a B; intro a E
  refine Qz ?_
  refine Ql E Y (fun a5 => ?_) (fun a5 => ?_)
  ·refine Qs (Qn E Y fun _ B => Qi B Y (qq _) fun _ C => Qb C Y Tryz.isAgg3 S.imm (Qq a0 Y) fun _ D => e_mul D Y Y fun _ F => Qj F Y ?_)
   clear E a B C D F; intro a E
   refine YO ?_
   exact Qa E Tryz.results132 Y ⟨_, Y, a2, a1, (congrArg (Value.int .i64) (by (clear E S; unfold JL w64; first | (simp [*]; done) | (simp_all; done)))), S⟩
  ·refine Qs (QK E Y Y fun _ B => Qj B Y ?_)
   clear E a B; intro a E
   refine Qz ?_
   refine Ql E Y (fun a6 => ?_) (fun a6 => ?_)
   ·refine Qs (Qi E Y (qq _) fun _ B => Qb B Y Tryz.isAgg3 S.imm (Qq a0 Y) fun _ C => Wb C Y Y ?_)
    clear E a B C; intro a E
    refine Qz ?_
    refine Ql E Y (fun a7 => ?_) (fun a7 => ?_)
    ·refine Qs (Qn E Y fun _ B => Qi B Y (qq _) fun _ C => Qb C Y Tryz.isAgg3 S.imm (Qq a0 Y) ?_)
     clear E a B C; intro a E
     refine Qk (Qm E S Y Y Y (yV (by omega) (by omega)) lerf ?_)
     clear E a S; rintro a _ w a8 a3 rfl S E
     replace a0 := a3.2 _ _ a0
     refine Qj E Y ?_
     clear E a; intro a E
     refine YO ?_
     exact Qa E Tryz.results132 Y ⟨_, Y, a8, (a1.trans a3), (congrArg (Value.int .i64) (by (clear E S; unfold JL w64; first | (simp [*]; done) | (simp_all; done)))), S⟩
    ·refine J_y (QD 2 E Y ?_)
     clear E a; intro a E
     refine Jj ?_
     exact Qa E Tryz.results132 Y ⟨_, Y, a2, a1, (congrArg (Value.int .i64) (by (clear E S; unfold JL w64; first | (simp [*]; done) | (simp_all; done)))), S⟩
   ·refine Qs (QK E Y Y fun _ B => Qj B Y ?_)
    clear E a B; intro a E
    refine Qz ?_
    refine Ql E Y (fun a9 => ?_) (fun a9 => ?_)
    ·refine Qs (Qi E Y (qq _) fun _ B => Qb B Y Tryz.isAgg3 S.imm (Qq a0 Y) fun _ C => Qj C Y ?_)
     clear E a B C; intro a E
     refine YO ?_
     exact Qa E Tryz.results132 Y ⟨_, Y, a2, a1, (congrArg (Value.int .i64) (by (clear E S; unfold JL w64; first | (simp [*]; done) | (simp_all; done)))), S⟩
    ·refine Qs (QK E Y Y fun _ B => Qj B Y ?_)
     clear E a B; intro a E
     refine Qz ?_
     refine Ql E Y (fun b0 => ?_) (fun b0 => ?_)
     ·refine Qs (QD 2 E Y ?_)
      clear E a; intro a E
      refine YO ?_
      exact Qa E Tryz.results132 Y ⟨_, Y, a2, a1, (congrArg (Value.int .i64) (by (clear E S; unfold JL w64; first | (simp [*]; done) | (simp_all; done)))), S⟩
     ·refine J_y (QD 2 E Y ?_)
      clear E a; intro a E
      refine Jj ?_
      exact Qa E Tryz.results132 Y ⟨_, Y, a2, a1, (congrArg (Value.int .i64) (by (clear E S; unfold JL w64; first | (simp [*]; done) | (simp_all; done)))), S⟩
theorem Key_at {M : Hp} {kk0 kn0 : Int} (gk0 : -9223372036854775808 ≤ kn0 ∧ kn0 ≤ 9223372036854775807){x1 x2 : Int} :
  Pu Tryz.prog (.func (.func 132) #[.agg #[.int .i64 kk0, .int .i64 kn0]] #[]) M [.int .i64 x1, .int .i64 x2] (fun r M' => r = .int .i64 (JL kk0 kn0 x1 x2)) := PuC.pu Tryz.call132 rfl (Key_at_c gk0)
theorem Gl {M : Hp} {kk0 kn0 : Int} (gk0 : -9223372036854775808 ≤ kn0 ∧ kn0 ≤ 9223372036854775807){x1 x2 : Int} :
  Pu Tryz.prog (.func (.func 132) #[] #[]) M [.agg #[.int .i64 kk0, .int .i64 kn0], .int .i64 x1, .int .i64 x2] (fun r M' => r = .int .i64 (JL kk0 kn0 x1 x2)) := PuC.pu Tryz.call132 rfl (Key_at_c gk0)
theorem impl_Map {M : Hp} {v0 : Value} {l0 : List Int} (h0 : Qy M v0 l0){kk1 kn1 : Int} (gk1 : -9223372036854775808 ≤ kn1 ∧ kn1 ≤ 9223372036854775807) (hb : l0.length ≤ 1000000000000) :
  Pu Tryz.prog (.func (.func 47) #[] #[]) M [v0, .agg #[.int .i64 kk1, .int .i64 kn1]] (fun r M' => Qy M' r (Yk (JL kk1 kn1) 0 l0)) := by
 refine Qd Tryz.func47 Y Tryz.ntmps47 Y Tryz.call47 ?_
 intro a w M1 H hM1 S E
 replace h0 := h0.le hM1
 have b0 := h0.bound
 refine Qs ?_
 refine Qk (QA (cs := #[.int .i64 kk1, .int .i64 kn1]) E S Y Y Y ?_)
 clear E a S; rintro a w a5 E S
 obtain ⟨a6, a0, a1, S⟩ := S.freezeB
 replace h0 := h0.le a0
 refine Qj E Y fun _ B => QI (Qn B Y fun _ C => Za C Y (Tryz.isAgg30 _) (Tryz.sizeOf30 _) S.imm a1 fun _ D => Qv D Y Y ?_)
 clear E a B C D; intro a E
 refine Qk (Qm E S Y Y Y (lo_Map h0 ⟨Y, fun zx1 zx2 => Key_at (x1 := zx1) (x2 := zx2) (by omega)⟩ (by (omega))) lerf ?_)
 clear E a S; rintro a a7 w a2 a3 a4 S E
 refine Qj E Y ?_
 clear E a; intro a E
 refine Jj ?_
 exact Qa E Tryz.results47 Y ⟨_, Y, a2, (a0.trans a3), a4, S⟩
theorem lo_FilterMap {M : Hp} {v0 : Value} {l0 : List Int} (h0 : Qy M v0 l0){v1 : Value} {f1 : Int → Int → Int × Bool} (h1 : PF2T Tryz.prog v1 M f1) (hb : l0.length ≤ 1000000000000) :
  Pu Tryz.prog (.func (.func 133) #[] #[]) M [v0, v1] (fun r M' => Qy M' r (Zt f1 0 l0)) := by
 refine Qd Tryz.func133 Y Tryz.ntmps133 Y Tryz.call133 ?_
 intro a w M1 H hM1 S E
 replace h0 := h0.le hM1
 replace h1 := h1.le hM1
 have b0 := h0.bound
 refine Qs (Qj E Y fun _ B => QI (Qn B Y fun _ C => Qt C Y QE h0.len ?_))
 clear E a B C; intro a E
 refine Qk (JD (k := (l0).length) E S Y Y Y QE Y (by omega) (by omega) (by omega) ?_)
 clear E a S; rintro a w b4 E S
 replace S := S.made0
 refine Qj E Y fun _ B => Zp (Qn B Y fun _ C => Qt C Y QE h0.len fun _ D => Qn D Y ?_)
 clear E a B C D; intro a E
 refine ZH ?_
 replace S := S.re1 (l' := Zt f1 0 (l0.take 0)) (by (simp [Zt]; done))
 refine QN (γ := Nat) (fun (k : Nat) a w => ∃ (a1 : Hp) (u5 : Value), Hp.le M1 a1 ∧ St w a1 (Jg 3 u5 (Zt f1 0 (l0.take k)) :: H) ∧ Env a 34 [] [(0, v0), (1, v1), (5, u5), (13, .int .i64 (((l0).length : Nat) : Int)), (14, .int .i64 ((k : Nat) : Int))] ∧ (k ≤ (l0).length)) (fun k => ((l0).length) - k) 0 ⟨M1, _, lerf, S, E.keep ⟨Y, Y, Y, Y, Y, trivial⟩, by (omega)⟩ ?_
 try clear E
 try clear S
 try clear a
 try clear w
 rintro k a w ⟨a1, u5, a0, S, E, b5⟩
 replace h0 := h0.le a0
 replace h1 := h1.le a0
 have hfl := GA f1 (l0.take k) 0; simp only [List.length_take] at hfl
 refine Qs (Jc E Y Y ?_)
 clear E a; intro a E
 refine ZJ ?_
 refine Ql E Y (fun a5 => ?_) (fun a5 => ?_)
 ·refine YZ (QD 2 E Y fun _ B => QI (QD 3 B Y ?_))
  clear E a B; intro a E
  obtain ⟨a2, a6⟩ : ∃ x, (l0)[k]? = some x := ⟨_, List.getElem?_eq_getElem (by omega)⟩
  obtain ⟨b6, a7, a8⟩ := h0.at a6
  refine QZ E Y Y QE a7 Y fun _ B => Qb B Y Tryz.isAgg3 S.imm a8 fun _ C => Qn C Y ?_
  clear E a B C; intro a E
  refine Qk (Qm E S Y Y Y (h1.2 a2 ((k : Nat) : Int)) lerf ?_)
  clear E a S; rintro a _ w a3 a4 rfl S E
  refine Qn E Y fun _ B => Qg B Y Y fun _ C => Qg C Y Y fun _ D => QD 2 D Y fun _ F => QI (Qn F Y ?_)
  clear E a B C D F; intro a E
  refine Qz ?_
  refine Jf E Y (fun a9 => ?_) (fun a9 => ?_)
  ·refine Qh ?_
   refine QD 2 E Y ?_
   clear E a; intro a E
   refine Qk (QV (ys := [(f1 a2 ((k : Nat) : Int)).1]) E S Y QE Y Y Y ?_)
   clear E a S; rintro a w b7 E S
   replace S := S.front1.front1
   refine Qk (JF (xs := Zt f1 0 (l0.take k)) (ys := [(f1 a2 ((k : Nat) : Int)).1]) E S Y Y Y QE (by (simp; omega)) ?_)
   clear E a S; rintro a w b8 E S
   refine Qj E Y fun _ B => Wj (Qp (m := ((k + 1 : Nat) : Int)) B Y Y fun _ C => Qn C Y ?_)
   clear E a B C; intro a E
   refine Qz ?_
   replace S := S.re1 (l' := Zt f1 0 (l0.take (k + 1))) (by (rw [vr (by assumption)]; simp [*]; done))
   exact ⟨k + 1, ⟨a3, _, (a0.trans a4), S, E.keep ⟨Y, Y, Y, Y, Y, trivial⟩, by (omega)⟩, by omega⟩
  ·refine Qx ?_
   refine WN (Qp (m := ((k + 1 : Nat) : Int)) E Y Y fun _ B => Qn B Y ?_)
   clear E a B; intro a E
   refine Qz ?_
   replace S := S.re1 (l' := Zt f1 0 (l0.take (k + 1))) (by (rw [vr (by assumption)]; simp [*]; done))
   exact ⟨k + 1, ⟨a3, _, (a0.trans a4), S, E.keep ⟨Y, Y, Y, Y, Y, trivial⟩, by (omega)⟩, by omega⟩
 ·refine VJ (QD 2 E Y ?_)
  clear E a; intro a E
  refine Jj ?_
  have S0 := S; clear S
  obtain ⟨b1, b2, b3, S⟩ := S0.freezeI (by (have hfl := GA f1 (l0.take k) 0; simp only [List.length_take] at hfl; omega))
  clear S0
  exact Qa E Tryz.results133 Y ⟨_, Y, b1, (a0.trans b2), (QX.eqL b3 (by (rw [List.take_of_length_le (by omega)]))), S⟩
theorem jJ {M : Hp} {kk8 kn8 : Int} (gk8 : -9223372036854775808 ≤ kn8 ∧ kn8 ≤ 9223372036854775807) {bx8 : Nat} (hbx8 : M bx8 = some (.cells #[.int .i64 kk8, .int .i64 kn8] 30)) {pk9 pn9 : Int} {w9 : Value} {pl9 : List Int} (hw9 : Qy M w9 pl9) (gn9 : -9223372036854775808 ≤ pn9 ∧ pn9 ≤ 9223372036854775807) {bx9 : Nat} (hbx9 : M bx9 = some (.cells #[.int .i64 pk9, .int .i64 pn9, w9] 27)) {x0 x1 : Int} :
  Pu Tryz.prog (.func (.func 134) #[] #[.pointer (some ⟨bx8, 0, none⟩), .pointer (some ⟨bx9, 0, none⟩)]) M [.int .i64 x0, .int .i64 x1] (fun r M' => r = .tuple #[.int .i64 (JL kk8 kn8 x0 x1), .bool (Jv pk9 pn9 pl9 x0 x1)]) := by
 refine Qd Tryz.func134 Y Tryz.ntmps134 Y Tryz.call134 ?_
 intro a w M1 H hM1 S E
 replace hbx8 := hM1.2 _ _ hbx8
 replace hbx9 := hM1.2 _ _ hbx9
 replace hw9 := hw9.le hM1
 refine Qs (QD 2 E Y ?_)
 clear E a; intro a E
 refine ZJ ?_
 have hbx8k0 := hbx8
 have hbx9k0 := hbx9
 replace S := S.mono_heap (w' := World.drew _) rfl
 refine Jb (C := fun x w => agree M1 w) (bf := (fun i => [])) [0, 1, 2, 4, 5, 6, 8, 9] [0, 1, 2, 4, 5, 6, 3, 7, 8, 9] Tryz.mixed (by kernel_rfl) (fun x hq => S.imm) ?_
 refine QU E Y (fun w hC => (ZW E Y (Tryz.isAgg30 _) (Tryz.sizeOf30 _) hC hbx8k0)) fun _ B => QU B Y (fun w hC => (QL B Y)) fun _ D => QU D Y (fun w hC => (QL D Y)) fun _ F => QU F Y (fun w hC => (ZW F Y (Tryz.isAgg27 _) (Tryz.sizeOf27 _) hC hbx9k0)) fun _ G => QU G Y (fun w hC => (QL G Y)) fun _ I => QU I Y (fun w hC => (QL I Y)) ?_
 clear E a B D F G I; intro a E
 refine ZP Y Y Y (Qm E S Y Y Y (Gl (by omega)) lerf ?_)
 clear E a S; rintro a _ w a3 a0 rfl S E
 replace hw9 := hw9.le a0
 refine ⟨fun x hq hb => (Qu a0 S.imm), ?_⟩
 refine ZP Y Y Y (Qm E S Y Y Y (jc hw9 (by omega)) lerf ?_)
 clear E a S; rintro a _ w a2 a1 rfl S E
 refine ⟨fun x hq hb => (Qu (a0.trans a1) S.imm), ?_⟩
 refine QU E Y (fun w hC => (Jx E Y)) fun _ B => QU B Y (fun w hC => (Jx B Y)) ?_
 clear E a B; intro a E
 refine JI (JH ?_)
 refine JZ (QM ?_)
 exact Zr E Tryz.results134 Y Y ⟨_, Y, a2, (a0.trans a1), (by rfl), S⟩
theorem vh {M : Hp} {v0 : Value} {l0 : List Int} (h0 : Qy M v0 l0){pk1 pn1 : Int} {w1 : Value} {pl1 : List Int} (hw1 : Qy M w1 pl1) (gn1 : -9223372036854775808 ≤ pn1 ∧ pn1 ≤ 9223372036854775807) {kk2 kn2 : Int} (gk2 : -9223372036854775808 ≤ kn2 ∧ kn2 ≤ 9223372036854775807) (hb : l0.length ≤ 1000000000000) :
  Pu Tryz.prog (.func (.func 48) #[] #[]) M [v0, .agg #[.int .i64 pk1, .int .i64 pn1, w1], .agg #[.int .i64 kk2, .int .i64 kn2]] (fun r M' => Qy M' r (Zt (fun x i => (JL kk2 kn2 x i, Jv pk1 pn1 pl1 x i)) 0 l0)) := by
 refine Qd Tryz.func48 Y Tryz.ntmps48 Y Tryz.call48 ?_
 intro a w M1 H hM1 S E
 replace h0 := h0.le hM1
 replace hw1 := hw1.le hM1
 have b0 := h0.bound
 refine Qs ?_
 refine Qk (QA (cs := #[.int .i64 pk1, .int .i64 pn1, w1]) E S Y Y Y ?_)
 clear E a S; rintro a w a7 E S
 obtain ⟨a8, a1, a2, S⟩ := S.freezeB
 replace h0 := h0.le a1
 replace hw1 := hw1.le a1
 refine Qk (QA (cs := #[.int .i64 kk2, .int .i64 kn2]) E S Y Y Y ?_)
 clear E a S; rintro a w a9 E S
 obtain ⟨b1, a0, a3, S⟩ := S.freezeB
 replace h0 := h0.le a0
 replace hw1 := hw1.le a0
 replace a2 := a0.2 _ _ a2
 refine Qj E Y fun _ B => QI (Qn B Y fun _ C => Qv C Y Y ?_)
 clear E a B C; intro a E
 refine Qk (Qm E S Y Y Y (lo_FilterMap h0 (f1 := (fun x i => (JL kk2 kn2 x i, Jv pk1 pn1 pl1 x i))) ⟨Y, fun zx0 zx1 => jJ (x0 := zx0) (x1 := zx1) (by omega) a3 hw1 (by omega) a2⟩ (by (omega))) lerf ?_)
 clear E a S; rintro a b2 w a4 a5 a6 S E
 refine Qj E Y ?_
 clear E a; intro a E
 refine Jj ?_
 exact Qa E Tryz.results48 Y ⟨_, Y, a4, (a1.trans (a0.trans a5)), a6, S⟩
theorem lo_FlatMap {M : Hp} {v0 : Value} {l0 : List Int} (h0 : Qy M v0 l0){v1 : Value} {f1 : Int → Int → List Int} (h1 : PF2L Tryz.prog v1 M f1) (hb : l0.length ≤ 1000000000) (hf2 : ∀ x i, (f1 x i).length = 2) :
  Pu Tryz.prog (.func (.func 135) #[] #[]) M [v0, v1] (fun r M' => Qy M' r (Zu f1 0 l0)) := by
 refine Qd Tryz.func135 Y Tryz.ntmps135 Y Tryz.call135 ?_
 intro a w M1 H hM1 S E
 replace h0 := h0.le hM1
 replace h1 := h1.le hM1
 have b0 := h0.bound
 refine Qs (Qj E Y fun _ B => QI (Qn B Y fun _ C => Qt C Y QE h0.len ?_))
 clear E a B C; intro a E
 refine Qk (JD (k := (l0).length) E S Y Y Y QE Y (by omega) (by omega) (by omega) ?_)
 clear E a S; rintro a w b4 E S
 replace S := S.made0
 refine Qj E Y fun _ B => Zp (Qn B Y fun _ C => Qt C Y QE h0.len fun _ D => Qn D Y ?_)
 clear E a B C D; intro a E
 refine ZH ?_
 replace S := S.re1 (l' := Zu f1 0 (l0.take 0)) (by (simp [Zu]; done))
 refine QN (γ := Nat) (fun (k : Nat) a w => ∃ (a1 : Hp) (u5 : Value), Hp.le M1 a1 ∧ St w a1 (Jg 3 u5 (Zu f1 0 (l0.take k)) :: H) ∧ Env a 26 [] [(0, v0), (1, v1), (5, u5), (11, .int .i64 (((l0).length : Nat) : Int)), (12, .int .i64 ((k : Nat) : Int))] ∧ (k ≤ (l0).length)) (fun k => ((l0).length) - k) 0 ⟨M1, _, lerf, S, E.keep ⟨Y, Y, Y, Y, Y, trivial⟩, by (omega)⟩ ?_
 try clear E
 try clear S
 try clear a
 try clear w
 rintro k a w ⟨a1, u5, a0, S, E, b5⟩
 replace h0 := h0.le a0
 replace h1 := h1.le a0
 have hfl := GB hf2 (l0.take k) 0; simp only [List.length_take] at hfl
 refine Qs (Jc E Y Y ?_)
 clear E a; intro a E
 refine ZJ ?_
 refine Ql E Y (fun a2 => ?_) (fun a2 => ?_)
 ·refine YZ (QD 2 E Y fun _ B => zw (QD 4 B Y ?_))
  clear E a B; intro a E
  obtain ⟨a3, a4⟩ : ∃ x, (l0)[k]? = some x := ⟨_, List.getElem?_eq_getElem (by omega)⟩
  obtain ⟨b6, a5, a6⟩ := h0.at a4
  refine QZ E Y Y QE a5 Y fun _ B => Qb B Y Tryz.isAgg3 S.imm a6 fun _ C => Qn C Y ?_
  clear E a B C; intro a E
  refine Qk (Qm E S Y Y Y (h1.2 a3 ((k : Nat) : Int)) lerf ?_)
  clear E a S; rintro a b7 w a7 a8 a9 S E
  refine Qk (JJ (xs := Zu f1 0 (l0.take k)) E S Y Y Y QE a9 (by (rw [hf2]; omega)) ?_)
  clear E a S; rintro a w b8 E S
  refine Qj E Y fun _ B => Wj (Qp (m := ((k + 1 : Nat) : Int)) B Y Y fun _ C => Qn C Y ?_)
  clear E a B C; intro a E
  refine Qz ?_
  replace S := S.re1 (l' := Zu f1 0 (l0.take (k + 1))) (by (rw [flatI_succ (by assumption)]; done))
  exact ⟨k + 1, ⟨a7, _, (a0.trans a8), S, E.keep ⟨Y, Y, Y, Y, Y, trivial⟩, by (omega)⟩, by omega⟩
 ·refine VJ (QD 2 E Y ?_)
  clear E a; intro a E
  refine Jj ?_
  have S0 := S; clear S
  obtain ⟨b1, b2, b3, S⟩ := S0.freezeI (by (have hfl := GB hf2 (l0.take k) 0; simp only [List.length_take] at hfl; omega))
  clear S0
  exact Qa E Tryz.results135 Y ⟨_, Y, b1, (a0.trans b2), (QX.eqL b3 (by (rw [List.take_of_length_le (by omega)]))), S⟩
theorem impl_FlatMap1 {M : Hp} {kk9 kn9 : Int} (gk9 : -9223372036854775808 ≤ kn9 ∧ kn9 ≤ 9223372036854775807) {bx9 : Nat} (hbx9 : M bx9 = some (.cells #[.int .i64 kk9, .int .i64 kn9] 30)) {x0 x1 : Int} :
  Pu Tryz.prog (.func (.func 136) #[] #[.pointer (some ⟨bx9, 0, none⟩)]) M [.int .i64 x0, .int .i64 x1] (fun r M' => Qy M' r [x0, JL kk9 kn9 x0 x1]) := by
 refine Qd Tryz.func136 Y Tryz.ntmps136 Y Tryz.call136 ?_
 intro a w M1 H hM1 S E
 replace hbx9 := hM1.2 _ _ hbx9
 refine Qs (Qj E Y fun _ B => QI (Qn B Y fun _ C => Za C Y (Tryz.isAgg30 _) (Tryz.sizeOf30 _) S.imm hbx9 fun _ D => QD 2 D Y ?_))
 clear E a B C D; intro a E
 refine Qk (Qm E S Y Y Y (Gl (by omega)) lerf ?_)
 clear E a S; rintro a _ w a4 a0 rfl S E
 refine Qk (QV (ys := [x0, JL kk9 kn9 x0 x1]) E S Y QE Y Y Y ?_)
 clear E a S; rintro a w a5 E S
 refine Qj E Y ?_
 clear E a; intro a E
 refine Jj ?_
 have S0 := S; clear S
 obtain ⟨a1, a2, a3, S⟩ := S0.freezeI (by ((simp; done)))
 clear S0
 exact Qa E Tryz.results136 Y ⟨_, Y, a1, (a0.trans a2), a3, S⟩
theorem impl_FlatMap {M : Hp} {v0 : Value} {l0 : List Int} (h0 : Qy M v0 l0){kk1 kn1 : Int} (gk1 : -9223372036854775808 ≤ kn1 ∧ kn1 ≤ 9223372036854775807) (hb : l0.length ≤ 1000000000) :
  Pu Tryz.prog (.func (.func 49) #[] #[]) M [v0, .agg #[.int .i64 kk1, .int .i64 kn1]] (fun r M' => Qy M' r (Zu (fun x i => [x, JL kk1 kn1 x i]) 0 l0)) := by
 refine Qd Tryz.func49 Y Tryz.ntmps49 Y Tryz.call49 ?_
 intro a w M1 H hM1 S E
 replace h0 := h0.le hM1
 have b0 := h0.bound
 refine Qs ?_
 refine Qk (QA (cs := #[.int .i64 kk1, .int .i64 kn1]) E S Y Y Y ?_)
 clear E a S; rintro a w a5 E S
 obtain ⟨a6, a0, a1, S⟩ := S.freezeB
 replace h0 := h0.le a0
 refine Qj E Y fun _ B => QI (Qn B Y fun _ C => Qv C Y Y ?_)
 clear E a B C; intro a E
 refine Qk (Qm E S Y Y Y (lo_FlatMap h0 (f1 := (fun x i => [x, JL kk1 kn1 x i])) ⟨Y, fun zx0 zx1 => impl_FlatMap1 (x0 := zx0) (x1 := zx1) (by omega) a1⟩ (by (omega)) (by exact fun _ _ => rfl)) lerf ?_)
 clear E a S; rintro a a7 w a2 a3 a4 S E
 refine Qj E Y ?_
 clear E a; intro a E
 refine Jj ?_
 exact Qa E Tryz.results49 Y ⟨_, Y, a2, (a0.trans a3), a4, S⟩
theorem lo_Uniq {M : Hp} {v0 : Value} {l0 : List Int} (h0 : Qy M v0 l0) (hb : l0.length ≤ 1000000000000) :
  Pu Tryz.prog (.func (.func 137) #[] #[]) M [v0] (fun r M' => Qy M' r (Qw l0)) := by
 refine Qd Tryz.func137 Y Tryz.ntmps137 Y Tryz.call137 ?_
 intro a w M1 H hM1 S E
 replace h0 := h0.le hM1
 have b0 := h0.bound
 refine Qs (Qj E Y fun _ B => QI (Qn B Y fun _ C => Qt C Y QE h0.len ?_))
 clear E a B C; intro a E
 refine Qk (JD (k := (l0).length) E S Y Y Y QE Y (by omega) (by omega) (by omega) ?_)
 clear E a S; rintro a w c0 E S
 replace S := S.made0
 refine Qj E Y fun _ B => QI (Qn B Y fun _ C => Qt C Y QE h0.len ?_)
 clear E a B C; intro a E
 refine Qk (YC E S Y Yp Y ?_)
 clear E a S; rintro a w a1 E S
 replace S : St w M1 (Zg a1 ([] : List Int) :: _) := S
 refine Qj E Y fun _ B => Zp (Qn B Y fun _ C => Qt C Y QE h0.len fun _ D => Qn D Y ?_)
 clear E a B C D; intro a E
 refine ZH ?_
 replace S := S.front1.front1
 replace S := S.reM (L' := (Sl.encS (Qw (l0.take 0)))) (congrArg Sl.encS (show ([] : List Int) = Qw (l0.take 0) by first | (simp [Qw]; done) | rfl | (rw [jX (by assumption) (by assumption)]; done) | (rw [qO (by assumption) (by assumption)]; done) | (rw [VO (by assumption)]; done)))
 replace S := S.front1
 replace S := S.re1 (l' := Qw (l0.take 0)) (by (simp [Qw]; done))
 refine QN (γ := Nat) (fun (k : Nat) a w => ∃ (a0 : Hp) (u3 : Value), Hp.le M1 a0 ∧ St w a0 (Jg 3 u3 (Qw (l0.take k)) :: Zg a1 (Qw (l0.take k)) :: H) ∧ Env a 44 [] [(0, v0), (3, u3), (4, .map (some a1)), (15, .int .i64 (((l0).length : Nat) : Int)), (16, .int .i64 ((k : Nat) : Int))] ∧ (k ≤ (l0).length)) (fun k => ((l0).length) - k) 0 ⟨M1, _, lerf, S, E.keep ⟨Y, Y, Y, Y, Y, trivial⟩, by (omega)⟩ ?_
 try clear E
 try clear S
 try clear a
 try clear w
 rintro k a w ⟨a0, u3, a2, S, E, c1⟩
 replace h0 := h0.le a2
 have hkl := UX (l0.take k); simp only [List.length_take] at hkl
 refine Qs (Jc E Y Y ?_)
 clear E a; intro a E
 refine ZJ ?_
 refine Ql E Y (fun a7 => ?_) (fun a7 => ?_)
 ·refine YZ (QD 2 E Y fun _ B => Zp (QD 3 B Y ?_))
  clear E a B; intro a E
  obtain ⟨a3, a4⟩ : ∃ x, (l0)[k]? = some x := ⟨_, List.getElem?_eq_getElem (by omega)⟩
  obtain ⟨c2, a8, a9⟩ := h0.at a4
  refine QZ E Y Y QE a8 Y fun _ B => Qb B Y Tryz.isAgg3 S.imm a9 ?_
  clear E a B; intro a E
  replace S := S.front1
  refine Qk (Ya E S Y Yp Y Y ?_)
  clear E a S; rintro a w E S
  replace S : St w a0 (Zg a1 (Qw (l0.take k)) :: _) := S
  refine Qn E Y fun _ B => Qg B Y Y fun _ C => Qg C Y Y ?_
  clear E a B C; intro a E
  refine Qk (Ja (cs := #[]) E S Y Tryz.zeroValue117 Y ?_)
  clear E a S; rintro a w b1 E S
  refine Jm (Zv (us := []) E S Y Y (Tryz.sizeOf117 _) Y (by intro u hu; cases hu) ?_)
  clear E a S; rintro a w E S
  replace S : St w a0 (Jk b1 (.cells #[] 117) :: _) := S
  have S0 := S; clear S
  obtain ⟨a6, a5, c3, S⟩ := S0.freezeB
  clear S0
  replace h0 := h0.le a5
  refine Qj E Y fun _ B => QI (Qn B Y ?_)
  clear E a B; intro a E
  refine Qz ?_
  refine Ql E Y (fun b2 => ?_) (fun b2 => ?_)
  ·refine J_z (Qp (m := ((k + 1 : Nat) : Int)) E Y Y fun _ B => Qn B Y ?_)
   clear E a B; intro a E
   refine Qz ?_
   replace S := S.front1.front1
   replace S := S.reM (L' := (Sl.encS (Qw (l0.take (k + 1))))) (congrArg Sl.encS (show Qw (l0.take k) = Qw (l0.take (k + 1)) by first | (simp [Qw]; done) | rfl | (rw [jX (by assumption) (by assumption)]; done) | (rw [qO (by assumption) (by assumption)]; done) | (rw [VO (by assumption)]; done)))
   replace S := S.front1
   replace S := S.re1 (l' := Qw (l0.take (k + 1))) (by (rw [jX (by assumption) (by assumption)]; done))
   exact ⟨k + 1, ⟨a6, _, (a2.trans a5), S, E.keep ⟨Y, Y, Y, Y, Y, trivial⟩, by (omega)⟩, by omega⟩
  ·refine VC (QD 3 E Y ?_)
   clear E a; intro a E
   obtain ⟨c4, b3, b4⟩ := h0.at a4
   refine QZ E Y Y QE b3 Y fun _ B => Qb B Y Tryz.isAgg3 S.imm b4 fun _ C => UI (u := .agg #[]) (vs := []) C Y (fun w => WG  w) ?_
   clear E a B C; intro a E
   refine Jm (VQ E S Yp Y Y Y ?_)
   clear E a S; rintro a w E S
   refine zw (QD 3 E Y ?_)
   clear E a; intro a E
   obtain ⟨c5, b5, b6⟩ := h0.at a4
   refine QZ E Y Y QE b5 Y fun _ B => Qb B Y Tryz.isAgg3 S.imm b6 ?_
   clear E a B; intro a E
   refine Qk (QV (ys := [a3]) E S Y QE Y Y Y ?_)
   clear E a S; rintro a w c6 E S
   replace S := S.front2.front1
   refine Qk (JF (xs := Qw (l0.take k)) (ys := [a3]) E S Y Y Y QE (by (simp; omega)) ?_)
   clear E a S; rintro a w c7 E S
   refine Qj E Y fun _ B => Wj (Qp (m := ((k + 1 : Nat) : Int)) B Y Y fun _ C => Qn C Y ?_)
   clear E a B C; intro a E
   refine Qz ?_
   replace S := S.front1
   replace S := S.reM (L' := (Sl.encS (Qw (l0.take (k + 1))))) (congrArg Sl.encS (show Ym (Qw (l0.take k)) a3 = Qw (l0.take (k + 1)) by first | (simp [Qw]; done) | rfl | (rw [jX (by assumption) (by assumption)]; done) | (rw [qO (by assumption) (by assumption)]; done) | (rw [VO (by assumption)]; done)))
   replace S := S.front1
   replace S := S.re1 (l' := Qw (l0.take (k + 1))) (by (rw [qO (by assumption) (by assumption)]; done))
   exact ⟨k + 1, ⟨a6, _, (a2.trans a5), S, E.keep ⟨Y, Y, Y, Y, Y, trivial⟩, by (omega)⟩, by omega⟩
 ·refine VJ (QD 2 E Y ?_)
  clear E a; intro a E
  refine Jj ?_
  have S0 := S; clear S
  obtain ⟨b7, b8, b9, S⟩ := S0.freezeI (by (omega))
  clear S0
  exact Qa E Tryz.results137 Y ⟨_, Y, b7, (a2.trans b8), (QX.eqL b9 (by (rw [List.take_of_length_le (by omega)]))), S.drop⟩
theorem impl_Uniq {M : Hp} {v0 : Value} {l0 : List Int} (h0 : Qy M v0 l0) (hb : l0.length ≤ 1000000000000) :
  Pu Tryz.prog (.func (.func 50) #[] #[]) M [v0] (fun r M' => Qy M' r (Qw l0)) := by
 refine Qd Tryz.func50 Y Tryz.ntmps50 Y Tryz.call50 ?_
 intro a w M1 H hM1 S E
 replace h0 := h0.le hM1
 have b0 := h0.bound
 have hkl := UX l0
 refine Qs (Qj E Y fun _ B => QI (Qn B Y ?_))
 clear E a B; intro a E
 refine Qk (Qm E S Y Y Y (lo_Uniq h0 (by (omega))) lerf ?_)
 clear E a S; rintro a a3 w a0 a1 a2 S E
 refine Qj E Y ?_
 clear E a; intro a E
 refine Jj ?_
 exact Qa E Tryz.results50 Y ⟨_, Y, a0, a1, a2, S⟩
theorem lo_UniqBy {M : Hp} {v0 : Value} {l0 : List Int} (h0 : Qy M v0 l0){v1 : Value} {f1 : Int → Int} (h1 : jd Tryz.prog v1 M f1) (hb : l0.length ≤ 1000000000000) :
  Pu Tryz.prog (.func (.func 138) #[] #[]) M [v0, v1] (fun r M' => Qy M' r ((Zm f1 l0).2)) := by
 refine Qd Tryz.func138 Y Tryz.ntmps138 Y Tryz.call138 ?_
 intro a w M1 H hM1 S E
 replace h0 := h0.le hM1
 replace h1 := h1.le hM1
 have b0 := h0.bound
 have hul := Wm f1 l0
 refine Qs (Qj E Y fun _ B => QI (Qn B Y fun _ C => Qt C Y QE h0.len ?_))
 clear E a B C; intro a E
 refine Qk (JD (k := (l0).length) E S Y Y Y QE Y (by omega) (by omega) (by omega) ?_)
 clear E a S; rintro a w c0 E S
 replace S := S.made0
 refine Qj E Y fun _ B => QI (Qn B Y fun _ C => Qt C Y QE h0.len ?_)
 clear E a B C; intro a E
 refine Qk (YC E S Y Yp Y ?_)
 clear E a S; rintro a w a1 E S
 replace S : St w M1 (Zg a1 ([] : List Int) :: _) := S
 refine Qj E Y fun _ B => Zp (Qn B Y fun _ C => Qt C Y QE h0.len fun _ D => Qn D Y ?_)
 clear E a B C D; intro a E
 refine ZH ?_
 replace S := S.front1.front1
 replace S := S.reM (L' := (Sl.encS ((Zm f1 (l0.take 0)).1))) (congrArg Sl.encS (show ([] : List Int) = (Zm f1 (l0.take 0)).1 by first | (simp [Zm]; done) | (rw [uq1_in (by assumption) (by assumption)]; done) | (rw [Wn (by assumption) (by assumption)]; done) | (rw [Wn (by assumption) (by assumption), zo (by assumption)]; done)))
 replace S := S.front1
 replace S := S.re1 (l' := (Zm f1 (l0.take 0)).2) (by (simp [Zm]; done))
 refine QN (γ := Nat) (fun (k : Nat) a w => ∃ (a3 : Hp) (u5 : Value), Hp.le M1 a3 ∧ St w a3 (Jg 3 u5 ((Zm f1 (l0.take k)).2) :: Zg a1 ((Zm f1 (l0.take k)).1) :: H) ∧ Env a 47 [] [(0, v0), (1, v1), (5, u5), (6, .map (some a1)), (18, .int .i64 (((l0).length : Nat) : Int)), (19, .int .i64 ((k : Nat) : Int))] ∧ (k ≤ (l0).length)) (fun k => ((l0).length) - k) 0 ⟨M1, _, lerf, S, E.keep ⟨Y, Y, Y, Y, Y, Y, trivial⟩, by (omega)⟩ ?_
 try clear E
 try clear S
 try clear a
 try clear w
 rintro k a w ⟨a3, u5, a0, S, E, c1⟩
 replace h0 := h0.le a0
 replace h1 := h1.le a0
 have hul := Wm f1 (l0.take k); rw [List.length_take] at hul
 refine Qs (Jc E Y Y ?_)
 clear E a; intro a E
 refine ZJ ?_
 refine Ql E Y (fun a9 => ?_) (fun a9 => ?_)
 ·refine YZ (QD 2 E Y fun _ B => QI (QD 3 B Y ?_))
  clear E a B; intro a E
  obtain ⟨a2, a6⟩ : ∃ x, (l0)[k]? = some x := ⟨_, List.getElem?_eq_getElem (by omega)⟩
  obtain ⟨c2, b1, b2⟩ := h0.at a6
  refine QZ E Y Y QE b1 Y fun _ B => Qb B Y Tryz.isAgg3 S.imm b2 ?_
  clear E a B; intro a E
  refine Qk (Qm E S Y Y Y (h1.2 a2) lerf ?_)
  clear E a S; rintro a _ w a7 a4 rfl S E
  replace h0 := h0.le a4
  refine Qj E Y fun _ B => Zp (QD 2 B Y ?_)
  clear E a B; intro a E
  replace S := S.front1
  refine Qk (Ya E S Y Yp Y Y ?_)
  clear E a S; rintro a w E S
  replace S : St w a7 (Zg a1 ((Zm f1 (l0.take k)).1) :: _) := S
  refine Qn E Y fun _ B => Qg B Y Y fun _ C => Qg C Y Y ?_
  clear E a B C; intro a E
  refine Qk (Ja (cs := #[]) E S Y Tryz.zeroValue117 Y ?_)
  clear E a S; rintro a w b3 E S
  refine Jm (Zv (us := []) E S Y Y (Tryz.sizeOf117 _) Y (by intro u hu; cases hu) ?_)
  clear E a S; rintro a w E S
  replace S : St w a7 (Jk b3 (.cells #[] 117) :: _) := S
  have S0 := S; clear S
  obtain ⟨a8, a5, c3, S⟩ := S0.freezeB
  clear S0
  replace h0 := h0.le a5
  refine Qj E Y fun _ B => QI (Qn B Y ?_)
  clear E a B; intro a E
  refine Qz ?_
  refine Ql E Y (fun b4 => ?_) (fun b4 => ?_)
  ·refine J_z (Qp (m := ((k + 1 : Nat) : Int)) E Y Y fun _ B => Qn B Y ?_)
   clear E a B; intro a E
   refine Qz ?_
   replace S := S.front1.front1
   replace S := S.reM (L' := (Sl.encS ((Zm f1 (l0.take (k + 1))).1))) (congrArg Sl.encS (show (Zm f1 (l0.take k)).1 = (Zm f1 (l0.take (k + 1))).1 by first | (simp [Zm]; done) | (rw [uq1_in (by assumption) (by assumption)]; done) | (rw [Wn (by assumption) (by assumption)]; done) | (rw [Wn (by assumption) (by assumption), zo (by assumption)]; done)))
   replace S := S.front1
   replace S := S.re1 (l' := (Zm f1 (l0.take (k + 1))).2) (by (rw [uq1_in (by assumption) (by assumption)]; done))
   exact ⟨k + 1, ⟨a8, _, (a0.trans (a4.trans a5)), S, E.keep ⟨Y, Y, Y, Y, Y, Y, trivial⟩, by (omega)⟩, by omega⟩
  ·refine VC (QD 2 E Y fun _ B => UI (u := .agg #[]) (vs := []) B Y (fun w => WG  w) ?_)
   clear E a B; intro a E
   refine Jm (VQ E S Yp Y Y Y ?_)
   clear E a S; rintro a w E S
   refine zw (QD 3 E Y ?_)
   clear E a; intro a E
   obtain ⟨c4, b5, b6⟩ := h0.at a6
   refine QZ E Y Y QE b5 Y fun _ B => Qb B Y Tryz.isAgg3 S.imm b6 ?_
   clear E a B; intro a E
   refine Qk (QV (ys := [a2]) E S Y QE Y Y Y ?_)
   clear E a S; rintro a w c5 E S
   replace S := S.front2.front1
   refine Qk (JF (xs := (Zm f1 (l0.take k)).2) (ys := [a2]) E S Y Y Y QE (by (simp only [List.length_cons, List.length_nil] at *; omega)) ?_)
   clear E a S; rintro a w c6 E S
   refine Qj E Y fun _ B => Wj (Qp (m := ((k + 1 : Nat) : Int)) B Y Y fun _ C => Qn C Y ?_)
   clear E a B C; intro a E
   refine Qz ?_
   replace S := S.front1
   replace S := S.reM (L' := (Sl.encS ((Zm f1 (l0.take (k + 1))).1))) (congrArg Sl.encS (show Ym ((Zm f1 (l0.take k)).1) (f1 a2) = (Zm f1 (l0.take (k + 1))).1 by first | (simp [Zm]; done) | (rw [uq1_in (by assumption) (by assumption)]; done) | (rw [Wn (by assumption) (by assumption)]; done) | (rw [Wn (by assumption) (by assumption), zo (by assumption)]; done)))
   replace S := S.front1
   replace S := S.re1 (l' := (Zm f1 (l0.take (k + 1))).2) (by (rw [Wn (by assumption) (by assumption)]; done))
   exact ⟨k + 1, ⟨a8, _, (a0.trans (a4.trans a5)), S, E.keep ⟨Y, Y, Y, Y, Y, Y, trivial⟩, by (omega)⟩, by omega⟩
 ·refine VJ (QD 2 E Y ?_)
  clear E a; intro a E
  refine Jj ?_
  have S0 := S; clear S
  obtain ⟨b7, b8, b9, S⟩ := S0.freezeI (by (have hul := Wm f1 (l0.take k); rw [List.length_take] at hul; omega))
  clear S0
  exact Qa E Tryz.results138 Y ⟨_, Y, b7, (a0.trans b8), (QX.eqL b9 (by (rw [List.take_of_length_le (by omega)]))), S.drop⟩
theorem Key_of_c {M : Hp} {kk0 kn0 : Int} (gk0 : -9223372036854775808 ≤ kn0 ∧ kn0 ≤ 9223372036854775807){x1 : Int} :
  PuC Tryz.prog 139 M [.agg #[.int .i64 kk0, .int .i64 kn0], .int .i64 x1] (fun r M' => r = .int .i64 (JL kk0 kn0 x1 0)) := by
 refine Wi Tryz.func139 Y Tryz.ntmps139 Y ?_
 intro a w M1 H hM1 S E
 refine Qs ?_
 refine Qk (QA (cs := #[.int .i64 kk0, .int .i64 kn0]) E S Y Y Y ?_)
 clear E a S; rintro a w a4 E S
 obtain ⟨a5, a0, a1, S⟩ := S.freezeB
 refine Qj E Y fun _ B => QI (Za B Y (Tryz.isAgg30 _) (Tryz.sizeOf30 _) S.imm a1 fun _ C => Qn C Y ?_)
 clear E a B C; intro a E
 refine Qk (Qm E S Y Y Y (Gl (by omega)) lerf ?_)
 clear E a S; rintro a _ w a2 a3 rfl S E
 refine Qj E Y ?_
 clear E a; intro a E
 refine Jj ?_
 exact Qa E Tryz.results139 Y ⟨_, Y, a2, (a0.trans a3), Y, S⟩
theorem Gk {M : Hp} {kk0 kn0 : Int} (gk0 : -9223372036854775808 ≤ kn0 ∧ kn0 ≤ 9223372036854775807){x1 : Int} :
  Pu Tryz.prog (.func (.func 139) #[.agg #[.int .i64 kk0, .int .i64 kn0]] #[]) M [.int .i64 x1] (fun r M' => r = .int .i64 (JL kk0 kn0 x1 0)) := PuC.pu Tryz.call139 rfl (Key_of_c gk0)
theorem Key_of_d {M : Hp} {kk0 kn0 : Int} (gk0 : -9223372036854775808 ≤ kn0 ∧ kn0 ≤ 9223372036854775807){x1 : Int} :
  Pu Tryz.prog (.func (.func 139) #[] #[]) M [.agg #[.int .i64 kk0, .int .i64 kn0], .int .i64 x1] (fun r M' => r = .int .i64 (JL kk0 kn0 x1 0)) := PuC.pu Tryz.call139 rfl (Key_of_c gk0)
theorem impl_UniqBy {M : Hp} {v0 : Value} {l0 : List Int} (h0 : Qy M v0 l0){kk1 kn1 : Int} (gk1 : -9223372036854775808 ≤ kn1 ∧ kn1 ≤ 9223372036854775807) (hb : l0.length ≤ 1000000000000) :
  Pu Tryz.prog (.func (.func 51) #[] #[]) M [v0, .agg #[.int .i64 kk1, .int .i64 kn1]] (fun r M' => Qy M' r ((Zm (fun x => JL kk1 kn1 x 0) l0).2)) := by
 refine Qd Tryz.func51 Y Tryz.ntmps51 Y Tryz.call51 ?_
 intro a w M1 H hM1 S E
 replace h0 := h0.le hM1
 have b0 := h0.bound
 have hul := Wm (fun x => JL kk1 kn1 x 0) l0
 refine Qs ?_
 refine Qk (QA (cs := #[.int .i64 kk1, .int .i64 kn1]) E S Y Y Y ?_)
 clear E a S; rintro a w a5 E S
 obtain ⟨a6, a0, a1, S⟩ := S.freezeB
 replace h0 := h0.le a0
 refine Qj E Y fun _ B => QI (Qn B Y fun _ C => Za C Y (Tryz.isAgg30 _) (Tryz.sizeOf30 _) S.imm a1 fun _ D => Qv D Y Y ?_)
 clear E a B C D; intro a E
 refine Qk (Qm E S Y Y Y (lo_UniqBy h0 ⟨Y, fun zx1 => Gk (x1 := zx1) (by omega)⟩ (by (omega))) lerf ?_)
 clear E a S; rintro a a7 w a2 a3 a4 S E
 refine Qj E Y ?_
 clear E a; intro a E
 refine Jj ?_
 exact Qa E Tryz.results51 Y ⟨_, Y, a2, (a0.trans a3), a4, S⟩
theorem yJ {M : Hp} {v0 : Value} {l0 : List Int} (h0 : Qy M v0 l0) (hb : l0.length ≤ 1000000000000) :
  Pu Tryz.prog (.func (.func 140) #[] #[]) M [v0] (fun r M' => Qy M' r ((l0).filter (fun x => !Zo false (QC (fun x => x) l0) ((fun x => x) x)))) := by
 refine Qd Tryz.func140 Y Tryz.ntmps140 Y Tryz.call140 ?_
 intro a w M1 H hM1 S E
 replace h0 := h0.le hM1
 have b0 := h0.bound
 refine Qs (Qj E Y fun _ B => QI (Qn B Y fun _ C => Qt C Y QE h0.len ?_))
 clear E a B C; intro a E
 refine Qk (YC E S Y Zc Y ?_)
 clear E a S; rintro a w a1 E S
 replace S : St w M1 (Zd Value.bool a1 ([] : List (Int × Bool)) :: _) := S
 refine Qj E Y fun _ B => QI (Qj B Y fun _ C => Zp (Qn C Y fun _ D => Qt D Y QE h0.len fun _ F => Qn F Y ?_))
 clear E a B C D F; intro a E
 refine ZH ?_
 replace S := S.reM (L' := (Jd Value.bool (QC (fun x => x) (l0.take 0)))) (congrArg (Jd Value.bool) (show ([] : List (Int × Bool)) = QC (fun x => x) (l0.take 0) by first | rfl | (simp [QC]; done) | exact Ug (f := (fun x => x)) (by assumption) (by assumption) | exact VI (f := (fun x => x)) (by assumption) (by assumption)))
 refine QN (γ := Nat) (fun (k : Nat) a w => ∃ (a0 : Hp), Hp.le M1 a0 ∧ St w a0 (Zd Value.bool a1 (QC (fun x => x) (l0.take k)) :: H) ∧ Env a 67 [] [(0, v0), (3, .map (some a1)), (4, .int .i64 ((Yl (QC (fun x => x) (l0.take k)) : Nat) : Int)), (15, .int .i64 (((l0).length : Nat) : Int)), (16, .int .i64 ((k : Nat) : Int))] ∧ (k ≤ (l0).length)) (fun k => ((l0).length) - k) 0 ⟨M1, lerf, S, E.keep ⟨Y, Y, Jr (i := 0) Y (by (simp [QC, Yl])), Y, Y, trivial⟩, by (omega)⟩ ?_
 try clear E
 try clear S
 try clear a
 try clear w
 rintro k a w ⟨a0, a3, S, E, c6⟩
 replace h0 := h0.le a3
 have hdl := YG (fun x => x) (l0.take k); rw [List.length_take] at hdl
 have hct := Vg (QC (fun x => x) (l0.take k))
 refine Qs (Jc E Y Y ?_)
 clear E a; intro a E
 refine ZJ ?_
 refine Ql E Y (fun a9 => ?_) (fun a9 => ?_)
 ·refine YZ (QD 2 E Y fun _ B => QI (QD 3 B Y ?_))
  clear E a B; intro a E
  obtain ⟨a4, a6⟩ : ∃ x, (l0)[k]? = some x := ⟨_, List.getElem?_eq_getElem (by omega)⟩
  obtain ⟨c7, b1, b2⟩ := h0.at a6
  refine QZ E Y Y QE b1 Y fun _ B => Qb B Y Tryz.isAgg3 S.imm b2 ?_
  clear E a B; intro a E
  refine Qk (Yb (vf := Value.bool) (zb := false) E S Y Zc Y Y ?_)
  clear E a S; rintro a w E S
  replace S : St w a0 (Zd Value.bool a1 (QC (fun x => x) (l0.take k)) :: _) := S
  refine Qn E Y fun _ B => Qg B Y Y fun _ C => Qg C Y Y fun _ D => QD 2 D Y fun _ F => QI (Qn F Y fun _ G => Ji G Y ?_)
  clear E a B C D F G; intro a E
  refine Qz ?_
  refine Jf E Y (fun b3 => ?_) (fun b3 => ?_)
  ·refine Je ?_
   refine Qh (QD 3 E Y ?_)
   clear E a; intro a E
   obtain ⟨c8, b4, b5⟩ := h0.at a6
   refine QZ E Y Y QE b4 Y fun _ B => Qb B Y Tryz.isAgg3 S.imm b5 fun _ C => Qn C Y ?_
   clear E a B C; intro a E
   refine Jm (ZZ (vf := Value.bool) (u := ZA (QC (fun x => x) (l0.take k)) a4) E S Zc Y Y Y ?_)
   clear E a S; rintro a w E S
   refine QI (Qn E Y ?_)
   clear E a; intro a E
   refine Qz ?_
   refine Jf E Y (fun b6 => ?_) (fun b6 => ?_)
   ·refine Qh ?_
    refine Qn E Y fun _ B => Qp (m := ((Yl (QC (fun x => x) (l0.take k)) + 1 : Nat) : Int)) B Y Y fun _ C => Qj C Y fun _ D => Wj (Qp (m := ((k + 1 : Nat) : Int)) D Y Y fun _ F => Qn F Y ?_)
    clear E a B C D F; intro a E
    refine Qz ?_
    replace S := S.reM (L' := (Jd Value.bool (QC (fun x => x) (l0.take (k + 1))))) (congrArg (Jd Value.bool) (show Zj (QC (fun x => x) (l0.take k)) a4 (ZA (QC (fun x => x) (l0.take k)) a4) = QC (fun x => x) (l0.take (k + 1)) by first | rfl | (simp [QC]; done) | exact Ug (f := (fun x => x)) (by assumption) (by assumption) | exact VI (f := (fun x => x)) (by assumption) (by assumption)))
    exact ⟨k + 1, ⟨a0, a3, S, E.keep ⟨Y, Y, Jr (i := Yl (QC (fun x => x) (l0.take k)) + 1) Y (by ((have h9 := cnt_i (f := (fun x => x)) (by assumption) (by assumption) (by assumption); omega))), Y, Y, trivial⟩, by (omega)⟩, by omega⟩
   ·refine Qx ?_
    refine WN (Qp (m := ((k + 1 : Nat) : Int)) E Y Y fun _ B => Qn B Y ?_)
    clear E a B; intro a E
    refine Qz ?_
    replace S := S.reM (L' := (Jd Value.bool (QC (fun x => x) (l0.take (k + 1))))) (congrArg (Jd Value.bool) (show Zj (QC (fun x => x) (l0.take k)) a4 (ZA (QC (fun x => x) (l0.take k)) a4) = QC (fun x => x) (l0.take (k + 1)) by first | rfl | (simp [QC]; done) | exact Ug (f := (fun x => x)) (by assumption) (by assumption) | exact VI (f := (fun x => x)) (by assumption) (by assumption)))
    exact ⟨k + 1, ⟨a0, a3, S, E.keep ⟨Y, Y, Jr (i := Yl (QC (fun x => x) (l0.take k))) Y (by ((have h9 := cnt_n (f := (fun x => x)) (by assumption) (by assumption) (by assumption); omega))), Y, Y, trivial⟩, by (omega)⟩, by omega⟩
  ·refine Qx ?_
   refine WN (Qp (m := ((k + 1 : Nat) : Int)) E Y Y fun _ B => Qn B Y ?_)
   clear E a B; intro a E
   refine Qz ?_
   replace S := S.reM (L' := (Jd Value.bool (QC (fun x => x) (l0.take (k + 1))))) (congrArg (Jd Value.bool) (show QC (fun x => x) (l0.take k) = QC (fun x => x) (l0.take (k + 1)) by first | rfl | (simp [QC]; done) | exact Ug (f := (fun x => x)) (by assumption) (by assumption) | exact VI (f := (fun x => x)) (by assumption) (by assumption)))
   exact ⟨k + 1, ⟨a0, a3, S, E.keep ⟨Y, Y, Jr (i := Yl (QC (fun x => x) (l0.take k))) Y (by ((have h9 := cnt_y (f := (fun x => x)) (by assumption) (by assumption); omega))), Y, Y, trivial⟩, by (omega)⟩, by omega⟩
 ·refine VJ (Qn E Y fun _ B => S_w B ((jb B S Zc Y).trans (by rw [Wa])) fun _ C => Qn C Y fun _ D => JT (m := (((QC (fun x => x) (l0.take k)).length - (Yl (QC (fun x => x) (l0.take k))) : Nat) : Int)) D Y Y ?_)
  clear E a B C D; intro a E
  refine Qk (JD (k := (QC (fun x => x) (l0.take k)).length - (Yl (QC (fun x => x) (l0.take k)))) E S Y Y Y QE Y (by omega) (by (have hdl := YG (fun x => x) (l0.take k); rw [List.length_take] at hdl; have hct := Vg (QC (fun x => x) (l0.take k)); omega)) (by (have hdl := YG (fun x => x) (l0.take k); rw [List.length_take] at hdl; have hct := Vg (QC (fun x => x) (l0.take k)); omega)) ?_)
  clear E a S; rintro a w c9 E S
  replace S := S.made0
  refine Qj E Y fun _ B => Zp (Qn B Y fun _ C => Qt C Y QE h0.len fun _ D => Qn D Y ?_)
  clear E a B C D; intro a E
  refine ZH ?_
  replace S := S.front1.front1.front1.front1
  replace S := S.re1 (l' := (l0.take 0).filter (fun x => !Zo false (QC (fun x => x) (l0.take k)) ((fun x => x) x))) (by rfl)
  refine QN (γ := Nat) (fun (j : Nat) a w => ∃ (a2 : Hp) (u8 : Value), Hp.le a0 a2 ∧ St w a2 (Jg 3 u8 ((l0.take j).filter (fun x => !Zo false (QC (fun x => x) (l0.take k)) ((fun x => x) x))) :: Zd Value.bool a1 (QC (fun x => x) (l0.take k)) :: H) ∧ Env a 67 [] [(0, v0), (3, .map (some a1)), (8, u8), (46, .int .i64 (((l0).length : Nat) : Int)), (47, .int .i64 ((j : Nat) : Int))] ∧ (j ≤ (l0).length)) (fun j => ((l0).length) - j) 0 ⟨a0, _, lerf, S, E.keep ⟨Y, Y, Y, Y, Y, trivial⟩, by (omega)⟩ ?_
  try clear E
  try clear S
  try clear a
  try clear w
  rintro j a w ⟨a2, u8, a5, S, E, d0⟩
  replace h0 := h0.le a5
  have hfl := List.length_filter_le (fun x => !Zo false (QC (fun x => x) (l0.take k)) ((fun x => x) x)) (l0.take j); rw [List.length_take] at hfl
  refine Qs (Jc E Y Y ?_)
  clear E a; intro a E
  refine ZJ ?_
  refine Ql E Y (fun b7 => ?_) (fun b7 => ?_)
  ·refine YZ (QD 2 E Y fun _ B => QI (QD 3 B Y ?_))
   clear E a B; intro a E
   obtain ⟨a7, a8⟩ : ∃ x, (l0)[j]? = some x := ⟨_, List.getElem?_eq_getElem (by omega)⟩
   obtain ⟨d1, b8, b9⟩ := h0.at a8
   refine QZ E Y Y QE b8 Y fun _ B => Qb B Y Tryz.isAgg3 S.imm b9 ?_
   clear E a B; intro a E
   replace S := S.front1
   refine Qk (WD (vf := Value.bool) (zb := false) E S Y Zc Y Y ?_)
   clear E a S; rintro a w E S
   replace S : St w a2 (Zd Value.bool a1 (QC (fun x => x) (l0.take k)) :: _) := S
   refine Qj E Y fun _ B => QI (Qn B Y fun _ C => Ji C Y ?_)
   clear E a B C; intro a E
   refine Qz ?_
   refine Jf E Y (fun c0 => ?_) (fun c0 => ?_)
   ·refine Qh ?_
    refine QD 3 E Y ?_
    clear E a; intro a E
    obtain ⟨d2, c1, c2⟩ := h0.at a8
    refine QZ E Y Y QE c1 Y fun _ B => Qb B Y Tryz.isAgg3 S.imm c2 ?_
    clear E a B; intro a E
    refine Qk (QV (ys := [a7]) E S Y QE Y Y Y ?_)
    clear E a S; rintro a w d3 E S
    replace S := S.front2.front1
    refine Qk (JF (xs := (l0.take j).filter (fun x => !Zo false (QC (fun x => x) (l0.take k)) ((fun x => x) x))) (ys := [a7]) E S Y Y Y QE (by (simp only [List.length_cons, List.length_nil] at *; omega)) ?_)
    clear E a S; rintro a w d4 E S
    refine Qj E Y fun _ B => Wj (Qp (m := ((j + 1 : Nat) : Int)) B Y Y fun _ C => Qn C Y ?_)
    clear E a B C; intro a E
    refine Qz ?_
    replace S := S.front1.front1
    replace S := S.re1 (l' := (l0.take (j + 1)).filter (fun x => !Zo false (QC (fun x => x) (l0.take k)) ((fun x => x) x))) (by exact flt1_yes (f := fun x => !Zo false (QC (fun x => x) (l0.take k)) ((fun x => x) x)) (by assumption) (by assumption))
    exact ⟨j + 1, ⟨a2, _, a5, S, E.keep ⟨Y, Y, Y, Y, Y, trivial⟩, by (omega)⟩, by omega⟩
   ·refine Qx ?_
    refine WN (Qp (m := ((j + 1 : Nat) : Int)) E Y Y fun _ B => Qn B Y ?_)
    clear E a B; intro a E
    refine Qz ?_
    replace S := S.front1.front1.front1
    replace S := S.re1 (l' := (l0.take (j + 1)).filter (fun x => !Zo false (QC (fun x => x) (l0.take k)) ((fun x => x) x))) (by exact flt1_no (f := fun x => !Zo false (QC (fun x => x) (l0.take k)) ((fun x => x) x)) (by assumption) (by assumption))
    exact ⟨j + 1, ⟨a2, _, a5, S, E.keep ⟨Y, Y, Y, Y, Y, trivial⟩, by (omega)⟩, by omega⟩
  ·refine VJ (QD 2 E Y ?_)
   clear E a; intro a E
   refine Jj ?_
   have S0 := S; clear S
   obtain ⟨c3, c4, c5, S⟩ := S0.freezeI (by (have hfl := List.length_filter_le (fun x => !Zo false (QC (fun x => x) (l0.take k)) ((fun x => x) x)) (l0.take j); rw [List.length_take] at hfl; omega))
   clear S0
   exact Qa E Tryz.results140 Y ⟨_, Y, c3, (a3.trans (a5.trans c4)), (QX.eqL c5 (by (rw [List.take_of_length_le (l := l0) (i := k) (by omega), List.take_of_length_le (l := l0) (i := j) (by omega)]))), S.drop⟩
theorem zR {M : Hp} {v0 : Value} {l0 : List Int} (h0 : Qy M v0 l0) (hb : l0.length ≤ 1000000000000) :
  Pu Tryz.prog (.func (.func 52) #[] #[]) M [v0] (fun r M' => Qy M' r ((l0).filter (fun x => !Zo false (QC (fun x => x) l0) ((fun x => x) x)))) := by
 refine Qd Tryz.func52 Y Tryz.ntmps52 Y Tryz.call52 ?_
 intro a w M1 H hM1 S E
 replace h0 := h0.le hM1
 have b0 := h0.bound
 refine Qs (Qj E Y fun _ B => QI (Qn B Y ?_))
 clear E a B; intro a E
 refine Qk (Qm E S Y Y Y (yJ h0 (by (omega))) lerf ?_)
 clear E a S; rintro a a3 w a0 a1 a2 S E
 refine Qj E Y ?_
 clear E a; intro a E
 refine Jj ?_
 exact Qa E Tryz.results52 Y ⟨_, Y, a0, a1, a2, S⟩
theorem qL {M : Hp} {v0 : Value} {l0 : List Int} (h0 : Qy M v0 l0) (hb : l0.length ≤ 1000000000000) :
  Pu Tryz.prog (.func (.func 141) #[] #[]) M [v0] (fun r M' => Qy M' r ((VH (fun x => x) (QC (fun x => x) l0) l0).2)) := by
 refine Qd Tryz.func141 Y Tryz.ntmps141 Y Tryz.call141 ?_
 intro a w M1 H hM1 S E
 replace h0 := h0.le hM1
 have b0 := h0.bound
 refine Qs (Qj E Y fun _ B => QI (Qn B Y fun _ C => Qt C Y QE h0.len ?_))
 clear E a B C; intro a E
 refine Qk (YC E S Y Zc Y ?_)
 clear E a S; rintro a w a1 E S
 replace S : St w M1 (Zd Value.bool a1 ([] : List (Int × Bool)) :: _) := S
 refine Qj E Y fun _ B => QI (Qj B Y fun _ C => Zp (Qn C Y fun _ D => Qt D Y QE h0.len fun _ F => Qn F Y ?_))
 clear E a B C D F; intro a E
 refine ZH ?_
 replace S := S.reM (L' := (Jd Value.bool (QC (fun x => x) (l0.take 0)))) (congrArg (Jd Value.bool) (show ([] : List (Int × Bool)) = QC (fun x => x) (l0.take 0) by first | rfl | (simp [QC]; done) | exact Ug (f := (fun x => x)) (by assumption) (by assumption) | exact VI (f := (fun x => x)) (by assumption) (by assumption)))
 refine QN (γ := Nat) (fun (k : Nat) a w => ∃ (a0 : Hp), Hp.le M1 a0 ∧ St w a0 (Zd Value.bool a1 (QC (fun x => x) (l0.take k)) :: H) ∧ Env a 68 [] [(0, v0), (3, .map (some a1)), (4, .int .i64 ((Yl (QC (fun x => x) (l0.take k)) : Nat) : Int)), (15, .int .i64 (((l0).length : Nat) : Int)), (16, .int .i64 ((k : Nat) : Int))] ∧ (k ≤ (l0).length)) (fun k => ((l0).length) - k) 0 ⟨M1, lerf, S, E.keep ⟨Y, Y, Jr (i := 0) Y (by (simp [QC, Yl])), Y, Y, trivial⟩, by (omega)⟩ ?_
 try clear E
 try clear S
 try clear a
 try clear w
 rintro k a w ⟨a0, a3, S, E, c8⟩
 replace h0 := h0.le a3
 have hdl := YG (fun x => x) (l0.take k); rw [List.length_take] at hdl
 have hct := Vg (QC (fun x => x) (l0.take k))
 refine Qs (Jc E Y Y ?_)
 clear E a; intro a E
 refine ZJ ?_
 refine Ql E Y (fun a9 => ?_) (fun a9 => ?_)
 ·refine YZ (QD 2 E Y fun _ B => QI (QD 3 B Y ?_))
  clear E a B; intro a E
  obtain ⟨a4, a8⟩ : ∃ x, (l0)[k]? = some x := ⟨_, List.getElem?_eq_getElem (by omega)⟩
  obtain ⟨c9, b1, b2⟩ := h0.at a8
  refine QZ E Y Y QE b1 Y fun _ B => Qb B Y Tryz.isAgg3 S.imm b2 ?_
  clear E a B; intro a E
  refine Qk (Yb (vf := Value.bool) (zb := false) E S Y Zc Y Y ?_)
  clear E a S; rintro a w E S
  replace S : St w a0 (Zd Value.bool a1 (QC (fun x => x) (l0.take k)) :: _) := S
  refine Qn E Y fun _ B => Qg B Y Y fun _ C => Qg C Y Y fun _ D => QD 2 D Y fun _ F => QI (Qn F Y fun _ G => Ji G Y ?_)
  clear E a B C D F G; intro a E
  refine Qz ?_
  refine Jf E Y (fun b3 => ?_) (fun b3 => ?_)
  ·refine Je ?_
   refine Qh (QD 3 E Y ?_)
   clear E a; intro a E
   obtain ⟨d0, b4, b5⟩ := h0.at a8
   refine QZ E Y Y QE b4 Y fun _ B => Qb B Y Tryz.isAgg3 S.imm b5 fun _ C => Qn C Y ?_
   clear E a B C; intro a E
   refine Jm (ZZ (vf := Value.bool) (u := ZA (QC (fun x => x) (l0.take k)) a4) E S Zc Y Y Y ?_)
   clear E a S; rintro a w E S
   refine QI (Qn E Y ?_)
   clear E a; intro a E
   refine Qz ?_
   refine Jf E Y (fun b6 => ?_) (fun b6 => ?_)
   ·refine Qh ?_
    refine Qn E Y fun _ B => Qp (m := ((Yl (QC (fun x => x) (l0.take k)) + 1 : Nat) : Int)) B Y Y fun _ C => Qj C Y fun _ D => Wj (Qp (m := ((k + 1 : Nat) : Int)) D Y Y fun _ F => Qn F Y ?_)
    clear E a B C D F; intro a E
    refine Qz ?_
    replace S := S.reM (L' := (Jd Value.bool (QC (fun x => x) (l0.take (k + 1))))) (congrArg (Jd Value.bool) (show Zj (QC (fun x => x) (l0.take k)) a4 (ZA (QC (fun x => x) (l0.take k)) a4) = QC (fun x => x) (l0.take (k + 1)) by first | rfl | (simp [QC]; done) | exact Ug (f := (fun x => x)) (by assumption) (by assumption) | exact VI (f := (fun x => x)) (by assumption) (by assumption)))
    exact ⟨k + 1, ⟨a0, a3, S, E.keep ⟨Y, Y, Jr (i := Yl (QC (fun x => x) (l0.take k)) + 1) Y (by ((have h9 := cnt_i (f := (fun x => x)) (by assumption) (by assumption) (by assumption); omega))), Y, Y, trivial⟩, by (omega)⟩, by omega⟩
   ·refine Qx ?_
    refine WN (Qp (m := ((k + 1 : Nat) : Int)) E Y Y fun _ B => Qn B Y ?_)
    clear E a B; intro a E
    refine Qz ?_
    replace S := S.reM (L' := (Jd Value.bool (QC (fun x => x) (l0.take (k + 1))))) (congrArg (Jd Value.bool) (show Zj (QC (fun x => x) (l0.take k)) a4 (ZA (QC (fun x => x) (l0.take k)) a4) = QC (fun x => x) (l0.take (k + 1)) by first | rfl | (simp [QC]; done) | exact Ug (f := (fun x => x)) (by assumption) (by assumption) | exact VI (f := (fun x => x)) (by assumption) (by assumption)))
    exact ⟨k + 1, ⟨a0, a3, S, E.keep ⟨Y, Y, Jr (i := Yl (QC (fun x => x) (l0.take k))) Y (by ((have h9 := cnt_n (f := (fun x => x)) (by assumption) (by assumption) (by assumption); omega))), Y, Y, trivial⟩, by (omega)⟩, by omega⟩
  ·refine Qx ?_
   refine WN (Qp (m := ((k + 1 : Nat) : Int)) E Y Y fun _ B => Qn B Y ?_)
   clear E a B; intro a E
   refine Qz ?_
   replace S := S.reM (L' := (Jd Value.bool (QC (fun x => x) (l0.take (k + 1))))) (congrArg (Jd Value.bool) (show QC (fun x => x) (l0.take k) = QC (fun x => x) (l0.take (k + 1)) by first | rfl | (simp [QC]; done) | exact Ug (f := (fun x => x)) (by assumption) (by assumption) | exact VI (f := (fun x => x)) (by assumption) (by assumption)))
   exact ⟨k + 1, ⟨a0, a3, S, E.keep ⟨Y, Y, Jr (i := Yl (QC (fun x => x) (l0.take k))) Y (by ((have h9 := cnt_y (f := (fun x => x)) (by assumption) (by assumption); omega))), Y, Y, trivial⟩, by (omega)⟩, by omega⟩
 ·refine VJ (Qn E Y ?_)
  clear E a; intro a E
  refine Qk (JD (k := Yl (QC (fun x => x) (l0.take k))) E S Y Y Y QE Y (by omega) (by (have hdl := YG (fun x => x) (l0.take k); rw [List.length_take] at hdl; have hct := Vg (QC (fun x => x) (l0.take k)); omega)) (by (have hdl := YG (fun x => x) (l0.take k); rw [List.length_take] at hdl; have hct := Vg (QC (fun x => x) (l0.take k)); omega)) ?_)
  clear E a S; rintro a w d1 E S
  replace S := S.made0
  refine Qj E Y fun _ B => Zp (Qn B Y fun _ C => Qt C Y QE h0.len fun _ D => Qn D Y ?_)
  clear E a B C D; intro a E
  refine ZH ?_
  replace S := S.front1.front1.front1
  replace S := S.reM (L' := (Jd Value.bool ((VH (fun x => x) (QC (fun x => x) (l0.take k)) (l0.take 0)).1))) (congrArg (Jd Value.bool) (show QC (fun x => x) (l0.take k) = (VH (fun x => x) (QC (fun x => x) (l0.take k)) (l0.take 0)).1 by first | rfl | (simp [VH]; done) | (rw [Ge (f := (fun x => x)) (by assumption) (by assumption)]; done) | (rw [fd_n (f := (fun x => x)) (by assumption) (by assumption)]; done)))
  replace S := S.front1
  replace S := S.re1 (l' := (VH (fun x => x) (QC (fun x => x) (l0.take k)) (l0.take 0)).2) (by rfl)
  refine QN (γ := Nat) (fun (j : Nat) a w => ∃ (a2 : Hp) (u8 : Value), Hp.le a0 a2 ∧ St w a2 (Jg 3 u8 ((VH (fun x => x) (QC (fun x => x) (l0.take k)) (l0.take j)).2) :: Zd Value.bool a1 ((VH (fun x => x) (QC (fun x => x) (l0.take k)) (l0.take j)).1) :: H) ∧ Env a 68 [] [(0, v0), (3, .map (some a1)), (8, u8), (43, .int .i64 (((l0).length : Nat) : Int)), (44, .int .i64 ((j : Nat) : Int))] ∧ (j ≤ (l0).length)) (fun j => ((l0).length) - j) 0 ⟨a0, _, lerf, S, E.keep ⟨Y, Y, Y, Y, Y, trivial⟩, by (omega)⟩ ?_
  try clear E
  try clear S
  try clear a
  try clear w
  rintro j a w ⟨a2, u8, a5, S, E, d2⟩
  replace h0 := h0.le a5
  have hfl := zg (fun x => x) (QC (fun x => x) (l0.take k)) (l0.take j); rw [List.length_take] at hfl
  refine Qs (Jc E Y Y ?_)
  clear E a; intro a E
  refine ZJ ?_
  refine Ql E Y (fun b7 => ?_) (fun b7 => ?_)
  ·refine YZ (QD 2 E Y fun _ B => QI (QD 3 B Y ?_))
   clear E a B; intro a E
   obtain ⟨a6, a7⟩ : ∃ x, (l0)[j]? = some x := ⟨_, List.getElem?_eq_getElem (by omega)⟩
   obtain ⟨d3, b8, b9⟩ := h0.at a7
   refine QZ E Y Y QE b8 Y fun _ B => Qb B Y Tryz.isAgg3 S.imm b9 ?_
   clear E a B; intro a E
   replace S := S.front1
   refine Qk (WD (vf := Value.bool) (zb := false) E S Y Zc Y Y ?_)
   clear E a S; rintro a w E S
   replace S : St w a2 (Zd Value.bool a1 ((VH (fun x => x) (QC (fun x => x) (l0.take k)) (l0.take j)).1) :: _) := S
   refine Qj E Y fun _ B => QI (Qn B Y ?_)
   clear E a B; intro a E
   refine Qz ?_
   refine Jf E Y (fun c0 => ?_) (fun c0 => ?_)
   ·refine Je ?_
    refine Qh (QD 3 E Y ?_)
    clear E a; intro a E
    obtain ⟨d4, c1, c2⟩ := h0.at a7
    refine QZ E Y Y QE c1 Y fun _ B => Qb B Y Tryz.isAgg3 S.imm c2 ?_
    clear E a B; intro a E
    refine Qk (QV (ys := [a6]) E S Y QE Y Y Y ?_)
    clear E a S; rintro a w d5 E S
    replace S := S.front2.front1
    refine Qk (JF (xs := (VH (fun x => x) (QC (fun x => x) (l0.take k)) (l0.take j)).2) (ys := [a6]) E S Y Y Y QE (by (simp only [List.length_cons, List.length_nil] at *; omega)) ?_)
    clear E a S; rintro a w d6 E S
    refine Qj E Y fun _ B => zw (QD 3 B Y ?_)
    clear E a B; intro a E
    obtain ⟨d7, c3, c4⟩ := h0.at a7
    refine QZ E Y Y QE c3 Y fun _ B => Qb B Y Tryz.isAgg3 S.imm c4 ?_
    clear E a B; intro a E
    replace S := S.front1
    refine Jm (ZZ (vf := Value.bool) (u := false) E S Zc Y Y Y ?_)
    clear E a S; rintro a w E S
    refine Wj (Qp (m := ((j + 1 : Nat) : Int)) E Y Y fun _ B => Qn B Y ?_)
    clear E a B; intro a E
    refine Qz ?_
    replace S := S.front1.front1
    replace S := S.reM (L' := (Jd Value.bool ((VH (fun x => x) (QC (fun x => x) (l0.take k)) (l0.take (j + 1))).1))) (congrArg (Jd Value.bool) (show Zj ((VH (fun x => x) (QC (fun x => x) (l0.take k)) (l0.take j)).1) a6 false = (VH (fun x => x) (QC (fun x => x) (l0.take k)) (l0.take (j + 1))).1 by first | rfl | (simp [VH]; done) | (rw [Ge (f := (fun x => x)) (by assumption) (by assumption)]; done) | (rw [fd_n (f := (fun x => x)) (by assumption) (by assumption)]; done)))
    replace S := S.front1
    replace S := S.re1 (l' := (VH (fun x => x) (QC (fun x => x) (l0.take k)) (l0.take (j + 1))).2) (by (rw [Ge (f := (fun x => x)) (by assumption) (by assumption)]; done))
    exact ⟨j + 1, ⟨a2, _, a5, S, E.keep ⟨Y, Y, Y, Y, Y, trivial⟩, by (omega)⟩, by omega⟩
   ·refine Qx ?_
    refine WN (Qp (m := ((j + 1 : Nat) : Int)) E Y Y fun _ B => Qn B Y ?_)
    clear E a B; intro a E
    refine Qz ?_
    replace S := S.front1.front1
    replace S := S.reM (L' := (Jd Value.bool ((VH (fun x => x) (QC (fun x => x) (l0.take k)) (l0.take (j + 1))).1))) (congrArg (Jd Value.bool) (show (VH (fun x => x) (QC (fun x => x) (l0.take k)) (l0.take j)).1 = (VH (fun x => x) (QC (fun x => x) (l0.take k)) (l0.take (j + 1))).1 by first | rfl | (simp [VH]; done) | (rw [Ge (f := (fun x => x)) (by assumption) (by assumption)]; done) | (rw [fd_n (f := (fun x => x)) (by assumption) (by assumption)]; done)))
    replace S := S.front1
    replace S := S.re1 (l' := (VH (fun x => x) (QC (fun x => x) (l0.take k)) (l0.take (j + 1))).2) (by (rw [fd_n (f := (fun x => x)) (by assumption) (by assumption)]; done))
    exact ⟨j + 1, ⟨a2, _, a5, S, E.keep ⟨Y, Y, Y, Y, Y, trivial⟩, by (omega)⟩, by omega⟩
  ·refine VJ (QD 2 E Y ?_)
   clear E a; intro a E
   refine Jj ?_
   have S0 := S; clear S
   obtain ⟨c5, c6, c7, S⟩ := S0.freezeI (by (have hfl := zg (fun x => x) (QC (fun x => x) (l0.take k)) (l0.take j); rw [List.length_take] at hfl; omega))
   clear S0
   exact Qa E Tryz.results141 Y ⟨_, Y, c5, (a3.trans (a5.trans c6)), (QX.eqL c7 (by (rw [List.take_of_length_le (l := l0) (i := k) (by omega), List.take_of_length_le (l := l0) (i := j) (by omega)]))), S.drop⟩
theorem GO {M : Hp} {v0 : Value} {l0 : List Int} (h0 : Qy M v0 l0) (hb : l0.length ≤ 1000000000000) :
  Pu Tryz.prog (.func (.func 53) #[] #[]) M [v0] (fun r M' => Qy M' r ((VH (fun x => x) (QC (fun x => x) l0) l0).2)) := by
 refine Qd Tryz.func53 Y Tryz.ntmps53 Y Tryz.call53 ?_
 intro a w M1 H hM1 S E
 replace h0 := h0.le hM1
 have b0 := h0.bound
 refine Qs (Qj E Y fun _ B => QI (Qn B Y ?_))
 clear E a B; intro a E
 refine Qk (Qm E S Y Y Y (qL h0 (by (omega))) lerf ?_)
 clear E a S; rintro a a3 w a0 a1 a2 S E
 refine Qj E Y ?_
 clear E a; intro a E
 refine Jj ?_
 exact Qa E Tryz.results53 Y ⟨_, Y, a0, a1, a2, S⟩
theorem zG {M : Hp} {v0 : Value} {l0 : List Int} (h0 : Qy M v0 l0){v1 : Value} {f1 : Int → Int} (h1 : jd Tryz.prog v1 M f1) (hb : l0.length ≤ 1000000000000) :
  Pu Tryz.prog (.func (.func 142) #[] #[]) M [v0, v1] (fun r M' => Qy M' r ((l0).filter (fun x => !Zo false (QC f1 l0) (f1 x)))) := by
 refine Qd Tryz.func142 Y Tryz.ntmps142 Y Tryz.call142 ?_
 intro a w M1 H hM1 S E
 replace h0 := h0.le hM1
 replace h1 := h1.le hM1
 have b0 := h0.bound
 refine Qs (Qj E Y fun _ B => QI (Qn B Y fun _ C => Qt C Y QE h0.len ?_))
 clear E a B C; intro a E
 refine Qk (YC E S Y Zc Y ?_)
 clear E a S; rintro a w a0 E S
 replace S : St w M1 (Zd Value.bool a0 ([] : List (Int × Bool)) :: _) := S
 refine Qj E Y fun _ B => QI (Qj B Y fun _ C => Zp (Qn C Y fun _ D => Qt D Y QE h0.len fun _ F => Qn F Y ?_))
 clear E a B C D F; intro a E
 refine ZH ?_
 replace S := S.reM (L' := (Jd Value.bool (QC f1 (l0.take 0)))) (congrArg (Jd Value.bool) (show ([] : List (Int × Bool)) = QC f1 (l0.take 0) by first | rfl | (simp [QC]; done) | exact Ug (f := f1) (by assumption) (by assumption) | exact VI (f := f1) (by assumption) (by assumption)))
 refine QN (γ := Nat) (fun (k : Nat) a w => ∃ (a3 : Hp), Hp.le M1 a3 ∧ St w a3 (Zd Value.bool a0 (QC f1 (l0.take k)) :: H) ∧ Env a 74 [] [(0, v0), (1, v1), (5, .map (some a0)), (6, .int .i64 ((Yl (QC f1 (l0.take k)) : Nat) : Int)), (19, .int .i64 (((l0).length : Nat) : Int)), (20, .int .i64 ((k : Nat) : Int))] ∧ (k ≤ (l0).length)) (fun k => ((l0).length) - k) 0 ⟨M1, lerf, S, E.keep ⟨Y, Y, Y, Jr (i := 0) Y (by (simp [QC, Yl])), Y, Y, trivial⟩, by (omega)⟩ ?_
 try clear E
 try clear S
 try clear a
 try clear w
 rintro k a w ⟨a3, a1, S, E, c8⟩
 replace h0 := h0.le a1
 replace h1 := h1.le a1
 have hdl := YG f1 (l0.take k); rw [List.length_take] at hdl
 have hct := Vg (QC f1 (l0.take k))
 refine Qs (Jc E Y Y ?_)
 clear E a; intro a E
 refine ZJ ?_
 refine Ql E Y (fun b3 => ?_) (fun b3 => ?_)
 ·refine YZ (QD 2 E Y fun _ B => QI (QD 3 B Y ?_))
  clear E a B; intro a E
  obtain ⟨a2, b4⟩ : ∃ x, (l0)[k]? = some x := ⟨_, List.getElem?_eq_getElem (by omega)⟩
  obtain ⟨c9, b5, b6⟩ := h0.at b4
  refine QZ E Y Y QE b5 Y fun _ B => Qb B Y Tryz.isAgg3 S.imm b6 ?_
  clear E a B; intro a E
  refine Qk (Qm E S Y Y Y (h1.2 a2) lerf ?_)
  clear E a S; rintro a _ w a6 a4 rfl S E
  replace h0 := h0.le a4
  replace h1 := h1.le a4
  refine Qj E Y fun _ B => QI (QD 2 B Y ?_)
  clear E a B; intro a E
  refine Qk (Yb (vf := Value.bool) (zb := false) E S Y Zc Y Y ?_)
  clear E a S; rintro a w E S
  replace S : St w a6 (Zd Value.bool a0 (QC f1 (l0.take k)) :: _) := S
  refine Qn E Y fun _ B => Qg B Y Y fun _ C => Qg C Y Y fun _ D => QD 2 D Y fun _ F => QI (Qn F Y fun _ G => Ji G Y ?_)
  clear E a B C D F G; intro a E
  refine Qz ?_
  refine Jf E Y (fun b7 => ?_) (fun b7 => ?_)
  ·refine Je ?_
   refine Qh (QD 3 E Y ?_)
   clear E a; intro a E
   refine Jm (ZZ (vf := Value.bool) (u := ZA (QC f1 (l0.take k)) (f1 a2)) E S Zc Y Y Y ?_)
   clear E a S; rintro a w E S
   refine QI (Qn E Y ?_)
   clear E a; intro a E
   refine Qz ?_
   refine Jf E Y (fun b8 => ?_) (fun b8 => ?_)
   ·refine Qh ?_
    refine Qn E Y fun _ B => Qp (m := ((Yl (QC f1 (l0.take k)) + 1 : Nat) : Int)) B Y Y fun _ C => Qj C Y fun _ D => Wj (Qp (m := ((k + 1 : Nat) : Int)) D Y Y fun _ F => Qn F Y ?_)
    clear E a B C D F; intro a E
    refine Qz ?_
    replace S := S.reM (L' := (Jd Value.bool (QC f1 (l0.take (k + 1))))) (congrArg (Jd Value.bool) (show Zj (QC f1 (l0.take k)) (f1 a2) (ZA (QC f1 (l0.take k)) (f1 a2)) = QC f1 (l0.take (k + 1)) by first | rfl | (simp [QC]; done) | exact Ug (f := f1) (by assumption) (by assumption) | exact VI (f := f1) (by assumption) (by assumption)))
    exact ⟨k + 1, ⟨a6, (a1.trans a4), S, E.keep ⟨Y, Y, Y, Jr (i := Yl (QC f1 (l0.take k)) + 1) Y (by ((have h9 := cnt_i (f := f1) (by assumption) (by assumption) (by assumption); omega))), Y, Y, trivial⟩, by (omega)⟩, by omega⟩
   ·refine Qx ?_
    refine WN (Qp (m := ((k + 1 : Nat) : Int)) E Y Y fun _ B => Qn B Y ?_)
    clear E a B; intro a E
    refine Qz ?_
    replace S := S.reM (L' := (Jd Value.bool (QC f1 (l0.take (k + 1))))) (congrArg (Jd Value.bool) (show Zj (QC f1 (l0.take k)) (f1 a2) (ZA (QC f1 (l0.take k)) (f1 a2)) = QC f1 (l0.take (k + 1)) by first | rfl | (simp [QC]; done) | exact Ug (f := f1) (by assumption) (by assumption) | exact VI (f := f1) (by assumption) (by assumption)))
    exact ⟨k + 1, ⟨a6, (a1.trans a4), S, E.keep ⟨Y, Y, Y, Jr (i := Yl (QC f1 (l0.take k))) Y (by ((have h9 := cnt_n (f := f1) (by assumption) (by assumption) (by assumption); omega))), Y, Y, trivial⟩, by (omega)⟩, by omega⟩
  ·refine Qx ?_
   refine WN (Qp (m := ((k + 1 : Nat) : Int)) E Y Y fun _ B => Qn B Y ?_)
   clear E a B; intro a E
   refine Qz ?_
   replace S := S.reM (L' := (Jd Value.bool (QC f1 (l0.take (k + 1))))) (congrArg (Jd Value.bool) (show QC f1 (l0.take k) = QC f1 (l0.take (k + 1)) by first | rfl | (simp [QC]; done) | exact Ug (f := f1) (by assumption) (by assumption) | exact VI (f := f1) (by assumption) (by assumption)))
   exact ⟨k + 1, ⟨a6, (a1.trans a4), S, E.keep ⟨Y, Y, Y, Jr (i := Yl (QC f1 (l0.take k))) Y (by ((have h9 := cnt_y (f := f1) (by assumption) (by assumption); omega))), Y, Y, trivial⟩, by (omega)⟩, by omega⟩
 ·refine VJ (Qn E Y fun _ B => S_w B ((jb B S Zc Y).trans (by rw [Wa])) fun _ C => Qn C Y fun _ D => JT (m := (((QC f1 (l0.take k)).length - (Yl (QC f1 (l0.take k))) : Nat) : Int)) D Y Y ?_)
  clear E a B C D; intro a E
  refine Qk (JD (k := (QC f1 (l0.take k)).length - (Yl (QC f1 (l0.take k)))) E S Y Y Y QE Y (by omega) (by (have hdl := YG f1 (l0.take k); rw [List.length_take] at hdl; have hct := Vg (QC f1 (l0.take k)); omega)) (by (have hdl := YG f1 (l0.take k); rw [List.length_take] at hdl; have hct := Vg (QC f1 (l0.take k)); omega)) ?_)
  clear E a S; rintro a w d0 E S
  replace S := S.made0
  refine Qj E Y fun _ B => Zp (Qn B Y fun _ C => Qt C Y QE h0.len fun _ D => Qn D Y ?_)
  clear E a B C D; intro a E
  refine ZH ?_
  replace S := S.front1.front1.front1.front1
  replace S := S.re1 (l' := (l0.take 0).filter (fun x => !Zo false (QC f1 (l0.take k)) (f1 x))) (by rfl)
  refine QN (γ := Nat) (fun (j : Nat) a w => ∃ (a7 : Hp) (u11 : Value), Hp.le a3 a7 ∧ St w a7 (Jg 3 u11 ((l0.take j).filter (fun x => !Zo false (QC f1 (l0.take k)) (f1 x))) :: Zd Value.bool a0 (QC f1 (l0.take k)) :: H) ∧ Env a 74 [] [(0, v0), (1, v1), (5, .map (some a0)), (11, u11), (50, .int .i64 (((l0).length : Nat) : Int)), (51, .int .i64 ((j : Nat) : Int))] ∧ (j ≤ (l0).length)) (fun j => ((l0).length) - j) 0 ⟨a3, _, lerf, S, E.keep ⟨Y, Y, Y, Y, Y, Y, trivial⟩, by (omega)⟩ ?_
  try clear E
  try clear S
  try clear a
  try clear w
  rintro j a w ⟨a7, u11, a5, S, E, d1⟩
  replace h0 := h0.le a5
  replace h1 := h1.le a5
  have hfl := List.length_filter_le (fun x => !Zo false (QC f1 (l0.take k)) (f1 x)) (l0.take j); rw [List.length_take] at hfl
  refine Qs (Jc E Y Y ?_)
  clear E a; intro a E
  refine ZJ ?_
  refine Ql E Y (fun b9 => ?_) (fun b9 => ?_)
  ·refine YZ (QD 2 E Y fun _ B => QI (QD 3 B Y ?_))
   clear E a B; intro a E
   obtain ⟨a8, b2⟩ : ∃ x, (l0)[j]? = some x := ⟨_, List.getElem?_eq_getElem (by omega)⟩
   obtain ⟨d2, c0, c1⟩ := h0.at b2
   refine QZ E Y Y QE c0 Y fun _ B => Qb B Y Tryz.isAgg3 S.imm c1 ?_
   clear E a B; intro a E
   refine Qk (Qm E S Y Y Y (h1.2 a8) lerf ?_)
   clear E a S; rintro a _ w a9 b1 rfl S E
   replace h0 := h0.le b1
   refine Qj E Y fun _ B => QI (QD 2 B Y ?_)
   clear E a B; intro a E
   replace S := S.front1
   refine Qk (WD (vf := Value.bool) (zb := false) E S Y Zc Y Y ?_)
   clear E a S; rintro a w E S
   replace S : St w a9 (Zd Value.bool a0 (QC f1 (l0.take k)) :: _) := S
   refine Qj E Y fun _ B => QI (Qn B Y fun _ C => Ji C Y ?_)
   clear E a B C; intro a E
   refine Qz ?_
   refine Jf E Y (fun c2 => ?_) (fun c2 => ?_)
   ·refine Qh ?_
    refine QD 3 E Y ?_
    clear E a; intro a E
    obtain ⟨d3, c3, c4⟩ := h0.at b2
    refine QZ E Y Y QE c3 Y fun _ B => Qb B Y Tryz.isAgg3 S.imm c4 ?_
    clear E a B; intro a E
    refine Qk (QV (ys := [a8]) E S Y QE Y Y Y ?_)
    clear E a S; rintro a w d4 E S
    replace S := S.front2.front1
    refine Qk (JF (xs := (l0.take j).filter (fun x => !Zo false (QC f1 (l0.take k)) (f1 x))) (ys := [a8]) E S Y Y Y QE (by (simp only [List.length_cons, List.length_nil] at *; omega)) ?_)
    clear E a S; rintro a w d5 E S
    refine Qj E Y fun _ B => Wj (Qp (m := ((j + 1 : Nat) : Int)) B Y Y fun _ C => Qn C Y ?_)
    clear E a B C; intro a E
    refine Qz ?_
    replace S := S.front1.front1
    replace S := S.re1 (l' := (l0.take (j + 1)).filter (fun x => !Zo false (QC f1 (l0.take k)) (f1 x))) (by exact flt1_yes (f := fun x => !Zo false (QC f1 (l0.take k)) (f1 x)) (by assumption) (by assumption))
    exact ⟨j + 1, ⟨a9, _, (a5.trans b1), S, E.keep ⟨Y, Y, Y, Y, Y, Y, trivial⟩, by (omega)⟩, by omega⟩
   ·refine Qx ?_
    refine WN (Qp (m := ((j + 1 : Nat) : Int)) E Y Y fun _ B => Qn B Y ?_)
    clear E a B; intro a E
    refine Qz ?_
    replace S := S.front1.front1.front1
    replace S := S.re1 (l' := (l0.take (j + 1)).filter (fun x => !Zo false (QC f1 (l0.take k)) (f1 x))) (by exact flt1_no (f := fun x => !Zo false (QC f1 (l0.take k)) (f1 x)) (by assumption) (by assumption))
    exact ⟨j + 1, ⟨a9, _, (a5.trans b1), S, E.keep ⟨Y, Y, Y, Y, Y, Y, trivial⟩, by (omega)⟩, by omega⟩
  ·refine VJ (QD 2 E Y ?_)
   clear E a; intro a E
   refine Jj ?_
   have S0 := S; clear S
   obtain ⟨c5, c6, c7, S⟩ := S0.freezeI (by (have hfl := List.length_filter_le (fun x => !Zo false (QC f1 (l0.take k)) (f1 x)) (l0.take j); rw [List.length_take] at hfl; omega))
   clear S0
   exact Qa E Tryz.results142 Y ⟨_, Y, c5, (a1.trans (a5.trans c6)), (QX.eqL c7 (by (rw [List.take_of_length_le (l := l0) (i := k) (by omega), List.take_of_length_le (l := l0) (i := j) (by omega)]))), S.drop⟩
theorem qh {M : Hp} {v0 : Value} {l0 : List Int} (h0 : Qy M v0 l0){kk1 kn1 : Int} (gk1 : -9223372036854775808 ≤ kn1 ∧ kn1 ≤ 9223372036854775807) (hb : l0.length ≤ 1000000000000) :
  Pu Tryz.prog (.func (.func 54) #[] #[]) M [v0, .agg #[.int .i64 kk1, .int .i64 kn1]] (fun r M' => Qy M' r ((l0).filter (fun x => !Zo false (QC (fun x => JL kk1 kn1 x 0) l0) ((fun x => JL kk1 kn1 x 0) x)))) := by
 refine Qd Tryz.func54 Y Tryz.ntmps54 Y Tryz.call54 ?_
 intro a w M1 H hM1 S E
 replace h0 := h0.le hM1
 have b0 := h0.bound
 have hfl := List.length_filter_le (fun x => !Zo false (QC (fun x => JL kk1 kn1 x 0) l0) ((fun x => JL kk1 kn1 x 0) x)) l0
 refine Qs ?_
 refine Qk (QA (cs := #[.int .i64 kk1, .int .i64 kn1]) E S Y Y Y ?_)
 clear E a S; rintro a w a5 E S
 obtain ⟨a6, a0, a1, S⟩ := S.freezeB
 replace h0 := h0.le a0
 refine Qj E Y fun _ B => QI (Qn B Y fun _ C => Za C Y (Tryz.isAgg30 _) (Tryz.sizeOf30 _) S.imm a1 fun _ D => Qv D Y Y ?_)
 clear E a B C D; intro a E
 refine Qk (Qm E S Y Y Y (zG h0 ⟨Y, fun zx1 => Gk (x1 := zx1) (by omega)⟩ (by (omega))) lerf ?_)
 clear E a S; rintro a a7 w a2 a3 a4 S E
 refine Qj E Y ?_
 clear E a; intro a E
 refine Jj ?_
 exact Qa E Tryz.results54 Y ⟨_, Y, a2, (a0.trans a3), a4, S⟩
theorem GL {M : Hp} {v0 : Value} {l0 : List Int} (h0 : Qy M v0 l0){v1 : Value} {f1 : Int → Int} (h1 : jd Tryz.prog v1 M f1) (hb : l0.length ≤ 1000000000000) :
  Pu Tryz.prog (.func (.func 143) #[] #[]) M [v0, v1] (fun r M' => Qy M' r ((VH f1 (QC f1 l0) l0).2)) := by
 refine Qd Tryz.func143 Y Tryz.ntmps143 Y Tryz.call143 ?_
 intro a w M1 H hM1 S E
 replace h0 := h0.le hM1
 replace h1 := h1.le hM1
 have b0 := h0.bound
 refine Qs (Qj E Y fun _ B => QI (Qn B Y fun _ C => Qt C Y QE h0.len ?_))
 clear E a B C; intro a E
 refine Qk (YC E S Y Zc Y ?_)
 clear E a S; rintro a w a0 E S
 replace S : St w M1 (Zd Value.bool a0 ([] : List (Int × Bool)) :: _) := S
 refine Qj E Y fun _ B => QI (Qj B Y fun _ C => Zp (Qn C Y fun _ D => Qt D Y QE h0.len fun _ F => Qn F Y ?_))
 clear E a B C D F; intro a E
 refine ZH ?_
 replace S := S.reM (L' := (Jd Value.bool (QC f1 (l0.take 0)))) (congrArg (Jd Value.bool) (show ([] : List (Int × Bool)) = QC f1 (l0.take 0) by first | rfl | (simp [QC]; done) | exact Ug (f := f1) (by assumption) (by assumption) | exact VI (f := f1) (by assumption) (by assumption)))
 refine QN (γ := Nat) (fun (k : Nat) a w => ∃ (a3 : Hp), Hp.le M1 a3 ∧ St w a3 (Zd Value.bool a0 (QC f1 (l0.take k)) :: H) ∧ Env a 72 [] [(0, v0), (1, v1), (5, .map (some a0)), (6, .int .i64 ((Yl (QC f1 (l0.take k)) : Nat) : Int)), (19, .int .i64 (((l0).length : Nat) : Int)), (20, .int .i64 ((k : Nat) : Int))] ∧ (k ≤ (l0).length)) (fun k => ((l0).length) - k) 0 ⟨M1, lerf, S, E.keep ⟨Y, Y, Y, Jr (i := 0) Y (by (simp [QC, Yl])), Y, Y, trivial⟩, by (omega)⟩ ?_
 try clear E
 try clear S
 try clear a
 try clear w
 rintro k a w ⟨a3, a1, S, E, c8⟩
 replace h0 := h0.le a1
 replace h1 := h1.le a1
 have hdl := YG f1 (l0.take k); rw [List.length_take] at hdl
 have hct := Vg (QC f1 (l0.take k))
 refine Qs (Jc E Y Y ?_)
 clear E a; intro a E
 refine ZJ ?_
 refine Ql E Y (fun b3 => ?_) (fun b3 => ?_)
 ·refine YZ (QD 2 E Y fun _ B => QI (QD 3 B Y ?_))
  clear E a B; intro a E
  obtain ⟨a2, b4⟩ : ∃ x, (l0)[k]? = some x := ⟨_, List.getElem?_eq_getElem (by omega)⟩
  obtain ⟨c9, b5, b6⟩ := h0.at b4
  refine QZ E Y Y QE b5 Y fun _ B => Qb B Y Tryz.isAgg3 S.imm b6 ?_
  clear E a B; intro a E
  refine Qk (Qm E S Y Y Y (h1.2 a2) lerf ?_)
  clear E a S; rintro a _ w a6 a4 rfl S E
  replace h0 := h0.le a4
  replace h1 := h1.le a4
  refine Qj E Y fun _ B => QI (QD 2 B Y ?_)
  clear E a B; intro a E
  refine Qk (Yb (vf := Value.bool) (zb := false) E S Y Zc Y Y ?_)
  clear E a S; rintro a w E S
  replace S : St w a6 (Zd Value.bool a0 (QC f1 (l0.take k)) :: _) := S
  refine Qn E Y fun _ B => Qg B Y Y fun _ C => Qg C Y Y fun _ D => QD 2 D Y fun _ F => QI (Qn F Y fun _ G => Ji G Y ?_)
  clear E a B C D F G; intro a E
  refine Qz ?_
  refine Jf E Y (fun b7 => ?_) (fun b7 => ?_)
  ·refine Je ?_
   refine Qh (QD 3 E Y ?_)
   clear E a; intro a E
   refine Jm (ZZ (vf := Value.bool) (u := ZA (QC f1 (l0.take k)) (f1 a2)) E S Zc Y Y Y ?_)
   clear E a S; rintro a w E S
   refine QI (Qn E Y ?_)
   clear E a; intro a E
   refine Qz ?_
   refine Jf E Y (fun b8 => ?_) (fun b8 => ?_)
   ·refine Qh ?_
    refine Qn E Y fun _ B => Qp (m := ((Yl (QC f1 (l0.take k)) + 1 : Nat) : Int)) B Y Y fun _ C => Qj C Y fun _ D => Wj (Qp (m := ((k + 1 : Nat) : Int)) D Y Y fun _ F => Qn F Y ?_)
    clear E a B C D F; intro a E
    refine Qz ?_
    replace S := S.reM (L' := (Jd Value.bool (QC f1 (l0.take (k + 1))))) (congrArg (Jd Value.bool) (show Zj (QC f1 (l0.take k)) (f1 a2) (ZA (QC f1 (l0.take k)) (f1 a2)) = QC f1 (l0.take (k + 1)) by first | rfl | (simp [QC]; done) | exact Ug (f := f1) (by assumption) (by assumption) | exact VI (f := f1) (by assumption) (by assumption)))
    exact ⟨k + 1, ⟨a6, (a1.trans a4), S, E.keep ⟨Y, Y, Y, Jr (i := Yl (QC f1 (l0.take k)) + 1) Y (by ((have h9 := cnt_i (f := f1) (by assumption) (by assumption) (by assumption); omega))), Y, Y, trivial⟩, by (omega)⟩, by omega⟩
   ·refine Qx ?_
    refine WN (Qp (m := ((k + 1 : Nat) : Int)) E Y Y fun _ B => Qn B Y ?_)
    clear E a B; intro a E
    refine Qz ?_
    replace S := S.reM (L' := (Jd Value.bool (QC f1 (l0.take (k + 1))))) (congrArg (Jd Value.bool) (show Zj (QC f1 (l0.take k)) (f1 a2) (ZA (QC f1 (l0.take k)) (f1 a2)) = QC f1 (l0.take (k + 1)) by first | rfl | (simp [QC]; done) | exact Ug (f := f1) (by assumption) (by assumption) | exact VI (f := f1) (by assumption) (by assumption)))
    exact ⟨k + 1, ⟨a6, (a1.trans a4), S, E.keep ⟨Y, Y, Y, Jr (i := Yl (QC f1 (l0.take k))) Y (by ((have h9 := cnt_n (f := f1) (by assumption) (by assumption) (by assumption); omega))), Y, Y, trivial⟩, by (omega)⟩, by omega⟩
  ·refine Qx ?_
   refine WN (Qp (m := ((k + 1 : Nat) : Int)) E Y Y fun _ B => Qn B Y ?_)
   clear E a B; intro a E
   refine Qz ?_
   replace S := S.reM (L' := (Jd Value.bool (QC f1 (l0.take (k + 1))))) (congrArg (Jd Value.bool) (show QC f1 (l0.take k) = QC f1 (l0.take (k + 1)) by first | rfl | (simp [QC]; done) | exact Ug (f := f1) (by assumption) (by assumption) | exact VI (f := f1) (by assumption) (by assumption)))
   exact ⟨k + 1, ⟨a6, (a1.trans a4), S, E.keep ⟨Y, Y, Y, Jr (i := Yl (QC f1 (l0.take k))) Y (by ((have h9 := cnt_y (f := f1) (by assumption) (by assumption); omega))), Y, Y, trivial⟩, by (omega)⟩, by omega⟩
 ·refine VJ (Qn E Y ?_)
  clear E a; intro a E
  refine Qk (JD (k := Yl (QC f1 (l0.take k))) E S Y Y Y QE Y (by omega) (by (have hdl := YG f1 (l0.take k); rw [List.length_take] at hdl; have hct := Vg (QC f1 (l0.take k)); omega)) (by (have hdl := YG f1 (l0.take k); rw [List.length_take] at hdl; have hct := Vg (QC f1 (l0.take k)); omega)) ?_)
  clear E a S; rintro a w d0 E S
  replace S := S.made0
  refine Qj E Y fun _ B => Zp (Qn B Y fun _ C => Qt C Y QE h0.len fun _ D => Qn D Y ?_)
  clear E a B C D; intro a E
  refine ZH ?_
  replace S := S.front1.front1.front1
  replace S := S.reM (L' := (Jd Value.bool ((VH f1 (QC f1 (l0.take k)) (l0.take 0)).1))) (congrArg (Jd Value.bool) (show QC f1 (l0.take k) = (VH f1 (QC f1 (l0.take k)) (l0.take 0)).1 by first | rfl | (simp [VH]; done) | (rw [Ge (f := f1) (by assumption) (by assumption)]; done) | (rw [fd_n (f := f1) (by assumption) (by assumption)]; done)))
  replace S := S.front1
  replace S := S.re1 (l' := (VH f1 (QC f1 (l0.take k)) (l0.take 0)).2) (by rfl)
  refine QN (γ := Nat) (fun (j : Nat) a w => ∃ (a8 : Hp) (u11 : Value), Hp.le a3 a8 ∧ St w a8 (Jg 3 u11 ((VH f1 (QC f1 (l0.take k)) (l0.take j)).2) :: Zd Value.bool a0 ((VH f1 (QC f1 (l0.take k)) (l0.take j)).1) :: H) ∧ Env a 72 [] [(0, v0), (1, v1), (5, .map (some a0)), (11, u11), (47, .int .i64 (((l0).length : Nat) : Int)), (48, .int .i64 ((j : Nat) : Int))] ∧ (j ≤ (l0).length)) (fun j => ((l0).length) - j) 0 ⟨a3, _, lerf, S, E.keep ⟨Y, Y, Y, Y, Y, Y, trivial⟩, by (omega)⟩ ?_
  try clear E
  try clear S
  try clear a
  try clear w
  rintro j a w ⟨a8, u11, a5, S, E, d1⟩
  replace h0 := h0.le a5
  replace h1 := h1.le a5
  have hfl := zg f1 (QC f1 (l0.take k)) (l0.take j); rw [List.length_take] at hfl
  refine Qs (Jc E Y Y ?_)
  clear E a; intro a E
  refine ZJ ?_
  refine Ql E Y (fun b9 => ?_) (fun b9 => ?_)
  ·refine YZ (QD 2 E Y fun _ B => QI (QD 3 B Y ?_))
   clear E a B; intro a E
   obtain ⟨a7, b2⟩ : ∃ x, (l0)[j]? = some x := ⟨_, List.getElem?_eq_getElem (by omega)⟩
   obtain ⟨d2, c0, c1⟩ := h0.at b2
   refine QZ E Y Y QE c0 Y fun _ B => Qb B Y Tryz.isAgg3 S.imm c1 ?_
   clear E a B; intro a E
   refine Qk (Qm E S Y Y Y (h1.2 a7) lerf ?_)
   clear E a S; rintro a _ w a9 b1 rfl S E
   replace h0 := h0.le b1
   refine Qj E Y fun _ B => QI (QD 2 B Y ?_)
   clear E a B; intro a E
   replace S := S.front1
   refine Qk (WD (vf := Value.bool) (zb := false) E S Y Zc Y Y ?_)
   clear E a S; rintro a w E S
   replace S : St w a9 (Zd Value.bool a0 ((VH f1 (QC f1 (l0.take k)) (l0.take j)).1) :: _) := S
   refine Qj E Y fun _ B => QI (Qn B Y ?_)
   clear E a B; intro a E
   refine Qz ?_
   refine Jf E Y (fun c2 => ?_) (fun c2 => ?_)
   ·refine Je ?_
    refine Qh (QD 3 E Y ?_)
    clear E a; intro a E
    obtain ⟨d3, c3, c4⟩ := h0.at b2
    refine QZ E Y Y QE c3 Y fun _ B => Qb B Y Tryz.isAgg3 S.imm c4 ?_
    clear E a B; intro a E
    refine Qk (QV (ys := [a7]) E S Y QE Y Y Y ?_)
    clear E a S; rintro a w d4 E S
    replace S := S.front2.front1
    refine Qk (JF (xs := (VH f1 (QC f1 (l0.take k)) (l0.take j)).2) (ys := [a7]) E S Y Y Y QE (by (simp only [List.length_cons, List.length_nil] at *; omega)) ?_)
    clear E a S; rintro a w d5 E S
    refine Qj E Y fun _ B => zw (QD 2 B Y ?_)
    clear E a B; intro a E
    replace S := S.front1
    refine Jm (ZZ (vf := Value.bool) (u := false) E S Zc Y Y Y ?_)
    clear E a S; rintro a w E S
    refine Wj (Qp (m := ((j + 1 : Nat) : Int)) E Y Y fun _ B => Qn B Y ?_)
    clear E a B; intro a E
    refine Qz ?_
    replace S := S.front1.front1
    replace S := S.reM (L' := (Jd Value.bool ((VH f1 (QC f1 (l0.take k)) (l0.take (j + 1))).1))) (congrArg (Jd Value.bool) (show Zj ((VH f1 (QC f1 (l0.take k)) (l0.take j)).1) (f1 a7) false = (VH f1 (QC f1 (l0.take k)) (l0.take (j + 1))).1 by first | rfl | (simp [VH]; done) | (rw [Ge (f := f1) (by assumption) (by assumption)]; done) | (rw [fd_n (f := f1) (by assumption) (by assumption)]; done)))
    replace S := S.front1
    replace S := S.re1 (l' := (VH f1 (QC f1 (l0.take k)) (l0.take (j + 1))).2) (by (rw [Ge (f := f1) (by assumption) (by assumption)]; done))
    exact ⟨j + 1, ⟨a9, _, (a5.trans b1), S, E.keep ⟨Y, Y, Y, Y, Y, Y, trivial⟩, by (omega)⟩, by omega⟩
   ·refine Qx ?_
    refine WN (Qp (m := ((j + 1 : Nat) : Int)) E Y Y fun _ B => Qn B Y ?_)
    clear E a B; intro a E
    refine Qz ?_
    replace S := S.front1.front1
    replace S := S.reM (L' := (Jd Value.bool ((VH f1 (QC f1 (l0.take k)) (l0.take (j + 1))).1))) (congrArg (Jd Value.bool) (show (VH f1 (QC f1 (l0.take k)) (l0.take j)).1 = (VH f1 (QC f1 (l0.take k)) (l0.take (j + 1))).1 by first | rfl | (simp [VH]; done) | (rw [Ge (f := f1) (by assumption) (by assumption)]; done) | (rw [fd_n (f := f1) (by assumption) (by assumption)]; done)))
    replace S := S.front1
    replace S := S.re1 (l' := (VH f1 (QC f1 (l0.take k)) (l0.take (j + 1))).2) (by (rw [fd_n (f := f1) (by assumption) (by assumption)]; done))
    exact ⟨j + 1, ⟨a9, _, (a5.trans b1), S, E.keep ⟨Y, Y, Y, Y, Y, Y, trivial⟩, by (omega)⟩, by omega⟩
  ·refine VJ (QD 2 E Y ?_)
   clear E a; intro a E
   refine Jj ?_
   have S0 := S; clear S
   obtain ⟨c5, c6, c7, S⟩ := S0.freezeI (by (have hfl := zg f1 (QC f1 (l0.take k)) (l0.take j); rw [List.length_take] at hfl; omega))
   clear S0
   exact Qa E Tryz.results143 Y ⟨_, Y, c5, (a1.trans (a5.trans c6)), (QX.eqL c7 (by (rw [List.take_of_length_le (l := l0) (i := k) (by omega), List.take_of_length_le (l := l0) (i := j) (by omega)]))), S.drop⟩
theorem WM {M : Hp} {v0 : Value} {l0 : List Int} (h0 : Qy M v0 l0){kk1 kn1 : Int} (gk1 : -9223372036854775808 ≤ kn1 ∧ kn1 ≤ 9223372036854775807) (hb : l0.length ≤ 1000000000000) :
  Pu Tryz.prog (.func (.func 55) #[] #[]) M [v0, .agg #[.int .i64 kk1, .int .i64 kn1]] (fun r M' => Qy M' r ((VH (fun x => JL kk1 kn1 x 0) (QC (fun x => JL kk1 kn1 x 0) l0) l0).2)) := by
 refine Qd Tryz.func55 Y Tryz.ntmps55 Y Tryz.call55 ?_
 intro a w M1 H hM1 S E
 replace h0 := h0.le hM1
 have b0 := h0.bound
 have hfl := zg (fun x => JL kk1 kn1 x 0) (QC (fun x => JL kk1 kn1 x 0) l0) l0
 refine Qs ?_
 refine Qk (QA (cs := #[.int .i64 kk1, .int .i64 kn1]) E S Y Y Y ?_)
 clear E a S; rintro a w a5 E S
 obtain ⟨a6, a0, a1, S⟩ := S.freezeB
 replace h0 := h0.le a0
 refine Qj E Y fun _ B => QI (Qn B Y fun _ C => Za C Y (Tryz.isAgg30 _) (Tryz.sizeOf30 _) S.imm a1 fun _ D => Qv D Y Y ?_)
 clear E a B C D; intro a E
 refine Qk (Qm E S Y Y Y (GL h0 ⟨Y, fun zx1 => Gk (x1 := zx1) (by omega)⟩ (by (omega))) lerf ?_)
 clear E a S; rintro a a7 w a2 a3 a4 S E
 refine Qj E Y ?_
 clear E a; intro a E
 refine Jj ?_
 exact Qa E Tryz.results55 Y ⟨_, Y, a2, (a0.trans a3), a4, S⟩
theorem Yz {M : Hp} {v0 : Value} {l0 : List Int} (h0 : Qy M v0 l0)(hb : l0.length ≤ 1000000000000) :
  Sp Tryz.prog (.func (.func 145) #[] #[]) M [v0] [] (fun r M' C' => C' = [Jg 3 r l0]) := by
 refine UB Tryz.func145 Y Tryz.ntmps145 Y Tryz.call145 ?_
 intro a w M1 H hM1 S E
 replace h0 := h0.le hM1
 have b0 := h0.bound
 refine Qs (Qj E Y ?_)
 clear E a; intro a E
 refine QI ?_
 refine Qk (QV (ys := []) E S Y QE Y Y Y ?_)
 clear E a S; rintro a w a0 E S
 refine Qn E Y ?_
 clear E a; intro a E
 refine Qk (JJ (xs := ([] : List Int)) E S Y Y Y QE h0 (by (simp; omega)) ?_)
 clear E a S; rintro a w a1 E S
 refine Qj E Y ?_
 clear E a; intro a E
 refine Jj ?_
 replace S := S.re1 (l' := l0) (by (rfl))
 exact Qa E Tryz.results145 Y ⟨_, Y, M1, _, lerf, Y, S⟩
theorem jr {M : Hp} {v0 : Value} {l0 : List Int} (b0 : l0.length ≤ 1000000000000) :
  Sp Tryz.prog (.func (.func 238) #[] #[]) M [v0] [Jg 3 v0 l0] (fun r M' C' => C' = [Jg 3 v0 ((l0).reverse)]) := by
 refine UB Tryz.func238 Y Tryz.ntmps238 Y Tryz.call238 ?_
 intro a w M1 H hM1 S E
 replace S : St w M1 (Jg 3 v0 l0 :: _) := S
 refine Qs (Qn E Y fun _ B => Qt B Y QE S.lenC fun _ D => Qj D Y fun _ F => QI (Qn F Y fun _ G => e_quon (p := (l0).length) (q := 2) G Y Y (by decide) (by omega) fun _ I => Qj I Y fun _ J => QI (Qj J Y ?_)))
 clear E a B D F G I J; intro a E
 refine ZH ?_
 replace S := S.re1 (l' := Um l0 0) (by exact swapK_zero _)
 refine QN (γ := Nat) (fun (k : Nat) a w => ∃ (a0 : Hp), Hp.le M1 a0 ∧ St w a0 (Jg 3 v0 (Um l0 k) :: H) ∧ Env a 33 [] [(0, v0), (2, .int .i64 (((l0).length : Nat) : Int)), (3, .int .i64 ((((l0).length) / 2 : Nat) : Int)), (4, .int .i64 ((k : Nat) : Int))] ∧ (k ≤ l0.length / 2)) (fun k => l0.length / 2 - k) 0 ⟨M1, lerf, S, E.keep ⟨Y, Y, Y, Y, trivial⟩, by (omega)⟩ ?_
 try clear E
 try clear S
 try clear a
 try clear w
 rintro k a w ⟨a0, a3, S, E, b2⟩
 have hsl := YS l0 k
 refine UK (QD 2 E Y fun _ B => Jc B Y Y ?_)
 clear E a B; intro a E
 refine Qz ?_
 refine Ql E Y (fun a4 => ?_) (fun a4 => ?_)
 ·refine YZ (Qn E Y fun _ B => JT (m := (((l0).length - 1 : Nat) : Int)) B Y Y fun _ D => Qn D Y fun _ F => JT (m := (((l0).length - 1 - k : Nat) : Int)) F Y Y fun _ G => Qj G Y ?_)
  clear E a B D F G; intro a E
  refine Qz ?_
  replace S := S.mono_heap (w' := World.drew _) rfl
  obtain ⟨a5, a1⟩ := S.ptrC (k := (l0).length - 1 - k) (by omega)
  obtain ⟨a6, a7⟩ : ∃ x, (Um l0 k)[(l0).length - 1 - k]? = some x := ⟨_, List.getElem?_eq_getElem (by omega)⟩
  obtain ⟨a8, a2⟩ := S.ptrC (k := k) (by omega)
  obtain ⟨a9, b1⟩ : ∃ x, (Um l0 k)[k]? = some x := ⟨_, List.getElem?_eq_getElem (by omega)⟩
  refine Jb (C := fun x w => agree a0 w ∧ (x = 7 → w.cell? a5 = some (.int .i64 a6)) ∧ (x = 11 → w.cell? a8 = some (.int .i64 a9))) (bf := (fun i => bif Nat.beq i 13 then [7, 11] else bif Nat.beq i 15 then [7, 11] else [])) [0, 1, 2, 3, 4, 5, 6, 7, 8, 9, 10, 11, 12, 14] [0, 1, 2, 3, 4, 5, 6, 7, 8, 9, 10, 11, 12, 13, 14, 15] Tryz.mixed (by kernel_rfl) (fun x hq => ⟨S.imm, fun _ => S.cellI a1 a7, fun _ => S.cellI a2 b1⟩) ?_
  refine QU E Y (fun w hC => (QL E Y)) fun _ B => QU B Y (fun w hC => (QL B Y)) fun _ D => QU D Y (fun w hC => (QL D Y)) fun _ F => QU F Y (fun w hC => (QL F Y)) fun _ G => QU G Y (fun w hC => (QL G Y)) fun _ I => QU I Y (fun w hC => (QL I Y)) fun _ J => QU J Y (fun w hC => (ZO J Y Y QE a1 Y)) fun _ K => QU K Y (fun w hC => (ZF K Y (Tryz.isAgg3 _) (hC.2.1 Y))) fun _ L => QU L Y (fun w hC => (QL L Y)) fun _ N => QU N Y (fun w hC => (QL N Y)) fun _ O => QU O Y (fun w hC => (ZO O Y Y QE a2 Y)) fun _ T => QU T Y (fun w hC => (ZF T Y (Tryz.isAgg3 _) (hC.2.2 Y))) ?_
  clear E a B D F G I J K L N O T; intro a E
  refine QU E Y (fun w hC => (ZO E Y Y QE a2 Y)) ?_
  clear E a; intro a E
  refine ZP Y Y Y (YH E S Y Y (Tryz.sizeOf3 _) a2 ?_)
  clear E a S; rintro a w E S
  refine ⟨fun x hq hb => ⟨(Qu lerf S.imm), (fun e => by subst e; exact absurd hb (by decide)), (fun e => by subst e; exact absurd hb (by decide))⟩, ?_⟩
  refine QU E Y (fun w hC => (ZO E Y Y QE a1 Y)) ?_
  clear E a; intro a E
  refine ZP Y Y Y (YH E S Y Y (Tryz.sizeOf3 _) a1 ?_)
  clear E a S; rintro a w E S
  refine ⟨fun x hq hb => ⟨(Qu lerf S.imm), (fun e => by subst e; exact absurd hb (by decide)), (fun e => by subst e; exact absurd hb (by decide))⟩, ?_⟩
  refine JI (JH ?_)
  refine WN (Qn E Y fun _ B => Qp (m := ((k + 1 : Nat) : Int)) B Y Y fun _ D => Qj D Y ?_)
  clear E a B D; intro a E
  refine Qz ?_
  replace S := S.re1 (l' := Um l0 (k + 1)) (by (refine swapK_succ ?_ ?_ (by assumption) (by assumption); omega; omega))
  exact ⟨k + 1, ⟨a0, a3, S, E.keep ⟨Y, Y, Y, Y, trivial⟩, by (omega)⟩, by omega⟩
 ·refine JO (Ul (Ul (zx (Yh ?_))))
  replace S := S.re1 (l' := (l0).reverse) (by (exact swapK_half (by omega)))
  exact F_ret0 E Tryz.results238 ⟨_, Y, a0, _, a3, Y, S⟩
theorem lo_Reverse {M : Hp} {v0 : Value} {l0 : List Int} (b0 : l0.length ≤ 1000000000000) :
  Sp Tryz.prog (.func (.func 144) #[] #[]) M [v0] [Jg 3 v0 l0] (fun r M' C' => C' = [Jg 3 r ((l0).reverse)]) := by
 refine UB Tryz.func144 Y Tryz.ntmps144 Y Tryz.call144 ?_
 intro a w M1 H hM1 S E
 replace S : St w M1 (Jg 3 v0 l0 :: _) := S
 refine Qs (Qj E Y fun _ B => QI (Qn B Y ?_))
 clear E a B; intro a E
 refine Qk (VF (p := [Jg 3 v0 l0]) E S Y Y Y (jr (by (omega))) lerf ?_)
 clear E a S; rintro a a2 w a0 _ a1 rfl S E
 replace S : St w a0 (Jg 3 v0 ((l0).reverse) :: _) := S
 refine QI (QD 2 E Y ?_)
 clear E a; intro a E
 refine Jj ?_
 exact Qa E Tryz.results144 Y ⟨_, Y, a0, _, a1, Y, S⟩
theorem impl_Reverse {M : Hp} {v0 : Value} {l0 : List Int} (h0 : Qy M v0 l0)(hb : l0.length ≤ 1000000000000) :
  Pu Tryz.prog (.func (.func 56) #[] #[]) M [v0] (fun r M' => Qy M' r ((l0).reverse)) := by
 refine Qd Tryz.func56 Y Tryz.ntmps56 Y Tryz.call56 ?_
 intro a w M1 H hM1 S E
 replace h0 := h0.le hM1
 have b0 := h0.bound
 refine Qs (Qj E Y fun _ B => QI (Qn B Y ?_))
 clear E a B; intro a E
 refine Qk (VF (p := []) E S Y Y Y (Yz h0 (by (first | omega | (simp; omega) | (simp; done) | (simp_all; omega) | grind))) lerf ?_)
 clear E a S; rintro a a0 w a1 _ a2 rfl S E
 replace S : St w a1 (Jg 3 a0 l0 :: _) := S
 refine Qk (VF (p := [Jg 3 a0 l0]) E S Y Y Y (lo_Reverse (by (omega))) lerf ?_)
 clear E a S; rintro a a3 w a4 _ a5 rfl S E
 replace S : St w a4 (Jg 3 a3 ((l0).reverse) :: _) := S
 refine Qj E Y ?_
 clear E a; intro a E
 refine Jj ?_
 have S0 := S; clear S
 obtain ⟨a6, a7, a8, S⟩ := S0.freezeI (by ((simp; omega)))
 clear S0
 exact Qa E Tryz.results56 Y ⟨_, Y, a6, (a2.trans (a5.trans a7)), a8, S⟩
theorem Yy {M : Hp} {v0 : Value} {l0 : List Int} (h0 : PF0L Tryz.prog v0 M l0) :
  Pu Tryz.prog (.func (.func 146) #[] #[]) M [v0] (fun r M' => ∃ t0, r = .tuple #[t0, .bool true] ∧ Qy M' t0 l0) := by
 refine Qd Tryz.func146 Y Tryz.ntmps146 Y Tryz.call146 ?_
 intro a w M1 H hM1 S E
 replace h0 := h0.le hM1
 refine Qs ?_
 refine Qk (Ja (cs := #[.slice none 0 0]) E S Y Tryz.zeroValue22 Y ?_)
 clear E a S; rintro a w a1 E S
 refine Qk (Ja (cs := #[.bool false]) E S Y Tryz.zeroValue4 Y ?_)
 clear E a S; rintro a w a2 E S
 refine QI (Qv E Y Y ?_)
 clear E a; intro a E
 refine S_defer E Y ?_
 clear E a; intro a E
 replace E : Env a 7 [⟨.fn (.func 239) #[.pointer (some ⟨a1, 0, none⟩), .pointer (some ⟨a2, 0, none⟩)], #[]⟩] _ := E
 refine QI (Qn E Y ?_)
 clear E a; intro a E
 refine Qk (Qm E S Y Y Y (h0.2 ) lerf ?_)
 clear E a S; rintro a a5 w a3 a4 a0 S E
 replace S := S.front1
 refine Jm (QS E S Y Y (Tryz.sizeOf22 _) (QX.one' a0) ?_)
 clear E a S; rintro a w E S
 replace S := S.front1
 refine Jm (QS E S Y Y (Tryz.sizeOf4 _) Y ?_)
 clear E a S; rintro a w E S
 refine Jj ?_
 replace S := S.front1
 exact F_retDC2 E S Tryz.results146 Y Y (fun w => Tryz.isAgg22 w) (fun w => Tryz.isAgg4 w) Tryz.call239 (fun w => qG Tryz.func239 Y Tryz.results239 Tryz.ntmps239 Y Y (by simp) (WI Tryz.underlying20)) ⟨_, Y, a3, a4, ⟨_, (by rfl), a0⟩, S.drop.drop⟩
theorem lo_Take {M : Hp} {v0 : Value} {l0 : List Int} (h0 : Qy M v0 l0){x1 : Int} (g1 : 0 ≤ x1 ∧ x1 ≤ 1000000000000)(hb : l0.length ≤ 1000000000000) :
  Pu Tryz.prog (.func (.func 148) #[] #[]) M [v0, .int .i64 x1] (fun r M' => Qy M' r ((l0).take (x1 : Int).toNat)) := by
 refine Qd Tryz.func148 Y Tryz.ntmps148 Y Tryz.call148 ?_
 intro a w M1 H hM1 S E
 replace h0 := h0.le hM1
 have b0 := h0.bound
 refine Qs (Qj E Y fun _ B => Zp (Qn B Y fun _ C => Jc C Y Y ?_))
 clear E a B C; intro a E
 refine Qz ?_
 have a3 : (decide (x1 < 0)) = false := by (apply decide_eq_false; omega)
 refine QF E Y a3 ?_
 refine je (Qn E Y fun _ B => QK B Y Y ?_)
 clear E a B; intro a E
 refine Qz ?_
 refine Ql E Y (fun a4 => ?_) (fun a4 => ?_)
 ·refine Qs ?_
  refine Qk (JD (k := 0) E S Y Y Y QE Y (by omega) (by omega) (by omega) ?_)
  clear E a S; rintro a w b7 E S
  replace S := S.made0
  refine Qj E Y ?_
  clear E a; intro a E
  refine UJ ?_
  have S0 := S; clear S
  obtain ⟨a5, a0, a6, S⟩ := S0.freezeI (by ((simp; done)))
  clear S0
  replace h0 := h0.le a0
  exact Qa E Tryz.results148 Y ⟨_, Y, a5, a0, (QX.eqL a6 (by ((rw [show x1.toNat = 0 by omega]; simp; done)))), S⟩
 ·refine VC (Qn E Y fun _ B => Qt B Y QE h0.len fun _ C => Qj C Y fun _ D => Zp (Qn D Y fun _ F => QK F Y Y ?_))
  clear E a B C D F; intro a E
  refine Qz ?_
  refine Ql E Y (fun a7 => ?_) (fun a7 => ?_)
  ·refine Qs ?_
   refine Qk (JD (k := 0) E S Y Y Y QE Y (by omega) (by omega) (by omega) ?_)
   clear E a S; rintro a w b8 E S
   replace S := S.made0
   refine Qj E Y ?_
   clear E a; intro a E
   refine UJ ?_
   have S0 := S; clear S
   obtain ⟨a8, a1, a9, S⟩ := S0.freezeI (by ((simp; done)))
   clear S0
   replace h0 := h0.le a1
   exact Qa E Tryz.results148 Y ⟨_, Y, a8, a1, (QX.eqL a9 (by ((rw [show l0 = [] from List.eq_nil_of_length_eq_zero (by omega)]; simp; done)))), S⟩
  ·refine je (QD 2 E Y fun _ B => Wc B Y Y ?_)
   clear E a B; intro a E
   refine Qz ?_
   refine Ql E Y (fun b1 => ?_) (fun b1 => ?_)
   ·refine Qs (Qn E Y ?_)
    clear E a; intro a E
    refine Qk (YM (k := (l0).length) E S Y Y Y QE (by omega) (by omega) (by omega) (by omega) ?_)
    clear E a S; rintro a w b9 E S
    replace S := S.madeI
    refine Qj E Y fun _ B => QI (QD 2 B Y ?_)
    clear E a B; intro a E
    refine Qk (VY (xs := (List.replicate ((l0).length) (0 : Int))) (ys := l0) E S Y Y Y QE h0 ?_)
    clear E a S; rintro a w E S
    refine QI (QD 2 E Y ?_)
    clear E a; intro a E
    refine UJ ?_
    have S0 := S; clear S
    obtain ⟨b2, a2, b3, S⟩ := S0.freezeI (by ((simp; omega)))
    clear S0
    replace h0 := h0.le a2
    exact Qa E Tryz.results148 Y ⟨_, Y, b2, a2, (QX.eqL b3 (by ((rw [List.length_replicate, List.drop_eq_nil_of_le (by first | (simp; done) | (simp; omega)), List.append_nil]; first | done | (rw [List.take_length, List.take_of_length_le (by omega)]) | rfl)))), S⟩
   ·refine VC (Qn E Y ?_)
    clear E a; intro a E
    refine Qk (YM (k := (x1).toNat) E S Y Y Y QE (by omega) (by omega) (by omega) (by omega) ?_)
    clear E a S; rintro a w c0 E S
    replace S := S.madeI
    refine Qj E Y fun _ B => QI (QD 2 B Y ?_)
    clear E a B; intro a E
    refine Qk (VY (xs := (List.replicate ((x1).toNat) (0 : Int))) (ys := l0) E S Y Y Y QE h0 ?_)
    clear E a S; rintro a w E S
    refine QI (QD 2 E Y ?_)
    clear E a; intro a E
    refine Jj ?_
    have S0 := S; clear S
    obtain ⟨b4, b5, b6, S⟩ := S0.freezeI (by ((simp; omega)))
    clear S0
    exact Qa E Tryz.results148 Y ⟨_, Y, b4, b5, (QX.eqL b6 (by ((rw [List.length_replicate, List.drop_eq_nil_of_le (by first | (simp; done) | (simp; omega)), List.append_nil]; first | done | (rw [List.take_length, List.take_of_length_le (by omega)]) | rfl)))), S⟩
theorem impl_Take1 {M : Hp} {v0 : Value} {l0 : List Int} (hb : l0.length ≤ 1000000000000) {c1 : Int} (g1 : 0 ≤ c1 ∧ c1 ≤ 1000000) {bx0 bx1 : Nat} (hbx0 : M bx0 = some (.cells #[v0] 22)) (h0 : Qy M v0 l0) (hbx1 : M bx1 = some (.cells #[.int .i64 c1] 3)) :
  Pu Tryz.prog (.func (.func 147) #[] #[.pointer (some ⟨bx0, 0, none⟩), .pointer (some ⟨bx1, 0, none⟩)]) M [] (fun r M' => Qy M' r ((l0).take (c1 : Int).toNat)) := by
 refine Qd Tryz.func147 Y Tryz.ntmps147 Y Tryz.call147 ?_
 intro a w M1 H hM1 S E
 replace hbx0 := hM1.2 _ _ hbx0
 replace hbx1 := hM1.2 _ _ hbx1
 replace h0 := h0.le hM1
 have b0 := h0.bound
 refine Qs (Qj E Y fun _ B => QI (Qb B Y Tryz.isAgg22 S.imm (Qf hbx0) fun _ C => Qb C Y Tryz.isAgg3 S.imm (Qf hbx1) ?_))
 clear E a B C; intro a E
 refine Qk (Qm E S Y Y Y (lo_Take h0 (by omega) (by (omega))) lerf ?_)
 clear E a S; rintro a a3 w a0 a1 a2 S E
 refine Qj E Y ?_
 clear E a; intro a E
 refine Jj ?_
 exact Qa E Tryz.results147 Y ⟨_, Y, a0, a1, a2, S⟩
theorem impl_Take {M : Hp} {v0 : Value} {l0 : List Int} (h0 : Qy M v0 l0){x1 : Int}  (hb : l0.length ≤ 1000000000000) (g1 : 0 ≤ x1 ∧ x1 ≤ 1000000) :
  Pu Tryz.prog (.func (.func 57) #[] #[]) M [v0, .int .i64 x1] (fun r M' => ∃ t0, r = .tuple #[t0, .bool true] ∧ Qy M' t0 ((l0).take (x1 : Int).toNat)) := by
 refine Qd Tryz.func57 Y Tryz.ntmps57 Y Tryz.call57 ?_
 intro a w M1 H hM1 S E
 replace h0 := h0.le hM1
 have b0 := h0.bound
 refine Qs ?_
 refine Qk (QA (cs := #[v0]) E S Y Y (cells_one (QX.one' h0)) ?_)
 clear E a S; rintro a w a7 E S
 obtain ⟨a8, a2, a0, S⟩ := S.freezeB
 replace h0 := h0.le a2
 refine Qk (QA (cs := #[.int .i64 x1]) E S Y Y Y ?_)
 clear E a S; rintro a w a9 E S
 obtain ⟨b1, a1, a3, S⟩ := S.freezeB
 replace h0 := h0.le a1
 replace a0 := a1.2 _ _ a0
 refine QD 2 E Y fun _ B => QI (Qv B Y Y ?_)
 clear E a B; intro a E
 refine Qk (Qm E S Y Y Y (Yy ⟨Y, impl_Take1  (by omega) (by omega) a0 h0 a3⟩) lerf ?_)
 clear E a S; rintro a _ w a4 a5 ⟨b2, rfl, a6⟩ S E
 refine Qg E Y Y fun _ B => Qg B Y Y fun _ C => QD 2 C Y ?_
 clear E a B C; intro a E
 refine Jj ?_
 exact Zr E Tryz.results57 Y Y ⟨_, Y, a4, (a2.trans (a1.trans a5)), ⟨_, (by rfl), (QX.eqL a6 (by (rfl)))⟩, S⟩
theorem Yx {M : Hp} {v0 : Value} {l0 : List Int} (h0 : Qy M v0 l0) :
  Pu Tryz.prog (.func (.func 32) #[] #[]) M [v0, .bool true] (fun r M' => Qy M' r l0) := by
 refine Qd Tryz.func32 Y Tryz.ntmps32 Y Tryz.call32 ?_
 intro a w M1 H hM1 S E
 replace h0 := h0.le hM1
 have b0 := h0.bound
 refine Qs (Qj E Y fun _ B => Zp (Qn B Y fun _ C => Ji C Y ?_))
 clear E a B C; intro a E
 refine Qz ?_
 refine Jf E Y (fun a1 => ?_) (fun a1 => ?_)
 ·refine Je ?_
  refine Qh ?_
  refine Qk (QV (ys := [(-7777)]) E S Y QE Y Y Y ?_)
  clear E a S; rintro a w a4 E S
  refine Qj E Y ?_
  clear E a; intro a E
  refine UJ ?_
  have S0 := S; clear S
  obtain ⟨a2, a0, a3, S⟩ := S0.freezeI (by ((simp; done)))
  clear S0
  replace h0 := h0.le a0
  exact Qa E Tryz.results32 Y ⟨_, Y, a2, a0, (by rw [show l0 = [(-7777)] from by ((try clear S); (try clear E); (simp_all; done))]; exact a3), S⟩
 ·refine Qx ?_
  refine JZ (Qs (QD 2 E Y ?_))
  clear E a; intro a E
  refine Jj ?_
  exact Qa E Tryz.results32 Y ⟨_, Y, M1, lerf, h0, S⟩
theorem lo_Drop {M : Hp} {v0 : Value} {l0 : List Int} (h0 : Qy M v0 l0){x1 : Int} (g1 : 0 ≤ x1 ∧ x1 ≤ 1000000) (hb : l0.length ≤ 1000000000000) :
  Pu Tryz.prog (.func (.func 150) #[] #[]) M [v0, .int .i64 x1] (fun r M' => Qy M' r ((l0).drop (x1 : Int).toNat)) := by
 refine Qd Tryz.func150 Y Tryz.ntmps150 Y Tryz.call150 ?_
 intro a w M1 H hM1 S E
 replace h0 := h0.le hM1
 have b0 := h0.bound
 refine Qs (Qj E Y fun _ B => Zp (Qn B Y fun _ C => Jc C Y Y ?_))
 clear E a B C; intro a E
 refine Qz ?_
 have a2 : (decide (x1 < 0)) = false := by (apply decide_eq_false; omega)
 refine QF E Y a2 ?_
 refine je (Qn E Y fun _ B => Qt B Y QE h0.len fun _ C => Qn C Y fun _ D => Vy D Y Y ?_)
 clear E a B C D; intro a E
 refine Qz ?_
 refine Ql E Y (fun a3 => ?_) (fun a3 => ?_)
 ·refine Qs ?_
  refine Qk (JD (k := 0) E S Y Y Y QE Y (by omega) (by omega) (by omega) ?_)
  clear E a S; rintro a w b2 E S
  replace S := S.made0
  refine Qj E Y ?_
  clear E a; intro a E
  refine UJ ?_
  have S0 := S; clear S
  obtain ⟨a4, a1, a5, S⟩ := S0.freezeI (by ((simp; done)))
  clear S0
  replace h0 := h0.le a1
  exact Qa E Tryz.results150 Y ⟨_, Y, a4, a1, (QX.eqL a5 (by (rw [List.drop_eq_nil_of_le (by omega)]))), S⟩
 ·refine VC (Qn E Y fun _ B => Qt B Y QE h0.len fun _ C => Qn C Y fun _ D => JT (m := (((l0).length : Nat) : Int) - x1) D Y Y ?_)
  clear E a B C D; intro a E
  refine Qk (JD (k := ((((l0).length : Nat) : Int) - x1).toNat) E S Y Y Y QE Y (by omega) (by omega) (by omega) ?_)
  clear E a S; rintro a w b3 E S
  replace S := S.made0
  refine Qj E Y fun _ B => QI (QD 3 B Y ?_)
  clear E a B; intro a E
  obtain ⟨a6, a7, a0⟩ := h0.subv ((x1).toNat) ((l0).length) (by omega) (by omega)
  simp only [List.take_length] at a0
  replace a0 : Qy M1 a6 ((l0).drop ((x1).toNat)) := a0
  refine Gf E Y Y QE h0.len a7 ?_
  clear E a; intro a E
  refine Qk (JJ (xs := ([] : List Int)) E S Y Y Y QE a0 (by (simp; omega)) ?_)
  clear E a S; rintro a w b4 E S
  refine Qj E Y ?_
  clear E a; intro a E
  refine Jj ?_
  have S0 := S; clear S
  obtain ⟨a8, a9, b1, S⟩ := S0.freezeI (by ((simp; omega)))
  clear S0
  exact Qa E Tryz.results150 Y ⟨_, Y, a8, a9, (QX.eqL b1 (by (simp))), S⟩
theorem impl_Drop1 {M : Hp} {v0 : Value} {l0 : List Int} (hb : l0.length ≤ 1000000000000) {c1 : Int} (g1 : 0 ≤ c1 ∧ c1 ≤ 1000000) {bx0 bx1 : Nat} (hbx0 : M bx0 = some (.cells #[v0] 22)) (h0 : Qy M v0 l0) (hbx1 : M bx1 = some (.cells #[.int .i64 c1] 3)) :
  Pu Tryz.prog (.func (.func 149) #[] #[.pointer (some ⟨bx0, 0, none⟩), .pointer (some ⟨bx1, 0, none⟩)]) M [] (fun r M' => Qy M' r ((l0).drop (c1 : Int).toNat)) := by
 refine Qd Tryz.func149 Y Tryz.ntmps149 Y Tryz.call149 ?_
 intro a w M1 H hM1 S E
 replace hbx0 := hM1.2 _ _ hbx0
 replace hbx1 := hM1.2 _ _ hbx1
 replace h0 := h0.le hM1
 have b0 := h0.bound
 refine Qs (Qj E Y fun _ B => QI (Qb B Y Tryz.isAgg22 S.imm (Qf hbx0) fun _ C => Qb C Y Tryz.isAgg3 S.imm (Qf hbx1) ?_))
 clear E a B C; intro a E
 refine Qk (Qm E S Y Y Y (lo_Drop h0 (by omega) (by (omega))) lerf ?_)
 clear E a S; rintro a a3 w a0 a1 a2 S E
 refine Qj E Y ?_
 clear E a; intro a E
 refine Jj ?_
 exact Qa E Tryz.results149 Y ⟨_, Y, a0, a1, a2, S⟩
theorem impl_Drop {M : Hp} {v0 : Value} {l0 : List Int} (h0 : Qy M v0 l0){x1 : Int}  (hb : l0.length ≤ 1000000000000) (g1 : 0 ≤ x1 ∧ x1 ≤ 1000000) :
  Pu Tryz.prog (.func (.func 58) #[] #[]) M [v0, .int .i64 x1] (fun r M' => ∃ t0, r = .tuple #[t0, .bool true] ∧ Qy M' t0 ((l0).drop (x1 : Int).toNat)) := by
 refine Qd Tryz.func58 Y Tryz.ntmps58 Y Tryz.call58 ?_
 intro a w M1 H hM1 S E
 replace h0 := h0.le hM1
 have b0 := h0.bound
 refine Qs ?_
 refine Qk (QA (cs := #[v0]) E S Y Y (cells_one (QX.one' h0)) ?_)
 clear E a S; rintro a w a7 E S
 obtain ⟨a8, a2, a0, S⟩ := S.freezeB
 replace h0 := h0.le a2
 refine Qk (QA (cs := #[.int .i64 x1]) E S Y Y Y ?_)
 clear E a S; rintro a w a9 E S
 obtain ⟨b1, a1, a3, S⟩ := S.freezeB
 replace h0 := h0.le a1
 replace a0 := a1.2 _ _ a0
 refine QD 2 E Y fun _ B => QI (Qv B Y Y ?_)
 clear E a B; intro a E
 refine Qk (Qm E S Y Y Y (Yy ⟨Y, impl_Drop1  (by omega) (by omega) a0 h0 a3⟩) lerf ?_)
 clear E a S; rintro a _ w a4 a5 ⟨b2, rfl, a6⟩ S E
 refine Qg E Y Y fun _ B => Qg B Y Y fun _ C => QD 2 C Y ?_
 clear E a B C; intro a E
 refine Jj ?_
 exact Zr E Tryz.results58 Y Y ⟨_, Y, a4, (a2.trans (a1.trans a5)), ⟨_, (by rfl), (QX.eqL a6 (by (rfl)))⟩, S⟩
theorem lo_DropRight {M : Hp} {v0 : Value} {l0 : List Int} (h0 : Qy M v0 l0){x1 : Int} (g1 : 0 ≤ x1 ∧ x1 ≤ 1000000) (hb : l0.length ≤ 1000000000000) :
  Pu Tryz.prog (.func (.func 152) #[] #[]) M [v0, .int .i64 x1] (fun r M' => Qy M' r ((l0).take ((l0).length - (x1 : Int).toNat))) := by
 refine Qd Tryz.func152 Y Tryz.ntmps152 Y Tryz.call152 ?_
 intro a w M1 H hM1 S E
 replace h0 := h0.le hM1
 have b0 := h0.bound
 refine Qs (Qj E Y fun _ B => Zp (Qn B Y fun _ C => Jc C Y Y ?_))
 clear E a B C; intro a E
 refine Qz ?_
 have a2 : (decide (x1 < 0)) = false := by (apply decide_eq_false; omega)
 refine QF E Y a2 ?_
 refine je (Qn E Y fun _ B => Qt B Y QE h0.len fun _ C => Qn C Y fun _ D => Vy D Y Y ?_)
 clear E a B C D; intro a E
 refine Qz ?_
 refine Ql E Y (fun a3 => ?_) (fun a3 => ?_)
 ·refine Qs ?_
  refine Qk (QV (ys := []) E S Y QE Y Y Y ?_)
  clear E a S; rintro a w b2 E S
  refine Qj E Y ?_
  clear E a; intro a E
  refine UJ ?_
  have S0 := S; clear S
  obtain ⟨a4, a1, a5, S⟩ := S0.freezeI (by ((simp; done)))
  clear S0
  replace h0 := h0.le a1
  exact Qa E Tryz.results152 Y ⟨_, Y, a4, a1, (QX.eqL a5 (by (rw [show l0.length - x1.toNat = 0 by omega]; rfl))), S⟩
 ·refine VC (Qn E Y fun _ B => Qt B Y QE h0.len fun _ C => Qn C Y fun _ D => JT (m := (((l0).length : Nat) : Int) - x1) D Y Y ?_)
  clear E a B C D; intro a E
  refine Qk (JD (k := ((((l0).length : Nat) : Int) - x1).toNat) E S Y Y Y QE Y (by omega) (by omega) (by omega) ?_)
  clear E a S; rintro a w b3 E S
  replace S := S.made0
  refine Qj E Y fun _ B => QI (QD 3 B Y fun _ C => Qt C Y QE h0.len fun _ D => Qn D Y fun _ F => JT (m := (((l0).length : Nat) : Int) - x1) F Y Y ?_)
  clear E a B C D F; intro a E
  obtain ⟨a6, a7, a0⟩ := h0.subv 0 (((((l0).length : Nat) : Int) - x1).toNat) (by omega) (by omega)
  simp only [List.drop_zero] at a0
  replace a0 : Qy M1 a6 ((l0).take (((((l0).length : Nat) : Int) - x1).toNat)) := a0
  refine Uf E Y Y QE a7 ?_
  clear E a; intro a E
  refine Qk (JJ (xs := ([] : List Int)) E S Y Y Y QE a0 (by (simp; omega)) ?_)
  clear E a S; rintro a w b4 E S
  refine Qj E Y ?_
  clear E a; intro a E
  refine Jj ?_
  have S0 := S; clear S
  obtain ⟨a8, a9, b1, S⟩ := S0.freezeI (by ((simp; omega)))
  clear S0
  exact Qa E Tryz.results152 Y ⟨_, Y, a8, a9, (QX.eqL b1 (by (rw [show ((l0.length : Int) - x1).toNat = l0.length - x1.toNat by omega]; simp))), S⟩
theorem jK {M : Hp} {v0 : Value} {l0 : List Int} (hb : l0.length ≤ 1000000000000) {c1 : Int} (g1 : 0 ≤ c1 ∧ c1 ≤ 1000000) {bx0 bx1 : Nat} (hbx0 : M bx0 = some (.cells #[v0] 22)) (h0 : Qy M v0 l0) (hbx1 : M bx1 = some (.cells #[.int .i64 c1] 3)) :
  Pu Tryz.prog (.func (.func 151) #[] #[.pointer (some ⟨bx0, 0, none⟩), .pointer (some ⟨bx1, 0, none⟩)]) M [] (fun r M' => Qy M' r ((l0).take ((l0).length - (c1 : Int).toNat))) := by
 refine Qd Tryz.func151 Y Tryz.ntmps151 Y Tryz.call151 ?_
 intro a w M1 H hM1 S E
 replace hbx0 := hM1.2 _ _ hbx0
 replace hbx1 := hM1.2 _ _ hbx1
 replace h0 := h0.le hM1
 have b0 := h0.bound
 refine Qs (Qj E Y fun _ B => QI (Qb B Y Tryz.isAgg22 S.imm (Qf hbx0) fun _ C => Qb C Y Tryz.isAgg3 S.imm (Qf hbx1) ?_))
 clear E a B C; intro a E
 refine Qk (Qm E S Y Y Y (lo_DropRight h0 (by omega) (by (omega))) lerf ?_)
 clear E a S; rintro a a3 w a0 a1 a2 S E
 refine Qj E Y ?_
 clear E a; intro a E
 refine Jj ?_
 exact Qa E Tryz.results151 Y ⟨_, Y, a0, a1, a2, S⟩
theorem vj {M : Hp} {v0 : Value} {l0 : List Int} (h0 : Qy M v0 l0){x1 : Int}  (hb : l0.length ≤ 1000000000000) (g1 : 0 ≤ x1 ∧ x1 ≤ 1000000) :
  Pu Tryz.prog (.func (.func 59) #[] #[]) M [v0, .int .i64 x1] (fun r M' => ∃ t0, r = .tuple #[t0, .bool true] ∧ Qy M' t0 ((l0).take ((l0).length - (x1 : Int).toNat))) := by
 refine Qd Tryz.func59 Y Tryz.ntmps59 Y Tryz.call59 ?_
 intro a w M1 H hM1 S E
 replace h0 := h0.le hM1
 have b0 := h0.bound
 refine Qs ?_
 refine Qk (QA (cs := #[v0]) E S Y Y (cells_one (QX.one' h0)) ?_)
 clear E a S; rintro a w a7 E S
 obtain ⟨a8, a2, a0, S⟩ := S.freezeB
 replace h0 := h0.le a2
 refine Qk (QA (cs := #[.int .i64 x1]) E S Y Y Y ?_)
 clear E a S; rintro a w a9 E S
 obtain ⟨b1, a1, a3, S⟩ := S.freezeB
 replace h0 := h0.le a1
 replace a0 := a1.2 _ _ a0
 refine QD 2 E Y fun _ B => QI (Qv B Y Y ?_)
 clear E a B; intro a E
 refine Qk (Qm E S Y Y Y (Yy ⟨Y, jK  (by omega) (by omega) a0 h0 a3⟩) lerf ?_)
 clear E a S; rintro a _ w a4 a5 ⟨b2, rfl, a6⟩ S E
 refine Qg E Y Y fun _ B => Qg B Y Y fun _ C => QD 2 C Y ?_
 clear E a B C; intro a E
 refine Jj ?_
 exact Zr E Tryz.results59 Y Y ⟨_, Y, a4, (a2.trans (a1.trans a5)), ⟨_, (by rfl), (QX.eqL a6 (by (rfl)))⟩, S⟩
theorem lo_TakeWhile {M : Hp} {v0 : Value} {l0 : List Int} (h0 : Qy M v0 l0){v1 : Value} {f1 : Int → Bool} (h1 : Gj Tryz.prog v1 M f1) (hb : l0.length ≤ 1000000000000) :
  Pu Tryz.prog (.func (.func 153) #[] #[]) M [v0, v1] (fun r M' => Qy M' r ((l0).takeWhile f1)) := by
 refine Qd Tryz.func153 Y Tryz.ntmps153 Y Tryz.call153 ?_
 intro a w M1 H hM1 S E
 replace h0 := h0.le hM1
 replace h1 := h1.le hM1
 have b0 := h0.bound
 refine Qs (Qj E Y fun _ B => QI (Qj B Y ?_))
 clear E a B; intro a E
 refine ZJ (QW ?_)
 refine QN (γ := Nat) (fun (k : Nat) a w => ∃ (a2 : Hp), Hp.le M1 a2 ∧ St w a2 (H) ∧ Env a 28 [] [(0, v0), (1, v1), (5, .int .i64 ((k : Nat) : Int))] ∧ (k ≤ (l0).length) ∧ (∀ x ∈ l0.take k, f1 x = true)) (fun k => ((l0).length) - k) 0 ⟨M1, lerf, S, E.keep ⟨Y, Y, Y, trivial⟩, by (omega), (by simp)⟩ ?_
 try clear E
 try clear S
 try clear a
 try clear w
 rintro k a w ⟨a2, a0, S, E, c4, a1⟩
 replace h0 := h0.le a0
 replace h1 := h1.le a0
 refine UK (QD 2 E Y fun _ B => Qt B Y QE h0.len fun _ C => Jc C Y Y ?_)
 clear E a B C; intro a E
 refine Qz ?_
 refine Ql E Y (fun a8 => ?_) (fun a8 => ?_)
 ·refine YZ (QD 3 E Y ?_)
  clear E a; intro a E
  obtain ⟨a9, b1⟩ : ∃ x, (l0)[k]? = some x := ⟨_, List.getElem?_eq_getElem (by omega)⟩
  obtain ⟨c5, b2, b3⟩ := h0.at b1
  refine QZ E Y Y QE b2 Y fun _ B => Qb B Y Tryz.isAgg3 S.imm b3 ?_
  clear E a B; intro a E
  refine Qk (Qm E S Y Y Y (h1.2 a9) lerf ?_)
  clear E a S; rintro a _ w a6 a5 rfl S E
  replace h0 := h0.le a5
  refine Ji E Y ?_
  clear E a; intro a E
  refine Qz ?_
  refine Jf E Y (fun b4 => ?_) (fun b4 => ?_)
  ·refine JO ?_
   refine B_y Y ?_
   refine J_v (Qn E Y ?_)
   clear E a; intro a E
   refine Qk (YM (k := k) E S Y Y Y QE (by omega) (by omega) (by omega) (by omega) ?_)
   clear E a S; rintro a w c6 E S
   replace S := S.madeI
   refine Qj E Y fun _ B => QI (QD 3 B Y ?_)
   clear E a B; intro a E
   obtain ⟨b5, b6, a3⟩ := h0.subv 0 k (by omega) (by omega)
   simp only [List.drop_zero] at a3
   replace a3 : Qy a6 b5 ((l0).take k) := a3
   refine Uf E Y Y QE b6 ?_
   clear E a; intro a E
   refine Qk (VY (xs := (List.replicate k (0 : Int))) (ys := (l0).take k) E S Y Y Y QE a3 ?_)
   clear E a S; rintro a w E S
   refine QI (QD 2 E Y ?_)
   clear E a; intro a E
   refine Jj ?_
   have S0 := S; clear S
   obtain ⟨b7, a7, b8, S⟩ := S0.freezeI (by (simp; omega))
   clear S0
   replace h0 := h0.le a7
   exact Qa E Tryz.results153 Y ⟨_, Y, b7, (a0.trans (a5.trans a7)), (QX.eqL b8 (by (rw [List.length_replicate, List.take_take, Nat.min_self, List.drop_eq_nil_of_le (by simp; omega), List.append_nil]; first | exact yj a1 (.inl (by omega)) | exact yj a1 (.inr ⟨_, by assumption, by simp_all⟩)))), S⟩
  ·refine Qx ?_
   refine WN (Qn E Y fun _ B => Qp (m := ((k + 1 : Nat) : Int)) B Y Y fun _ C => Qj C Y ?_)
   clear E a B C; intro a E
   refine Qz ?_
   exact ⟨k + 1, ⟨a6, (a0.trans a5), S, E.keep ⟨Y, Y, Y, trivial⟩, by (omega), (by exact yo (P := fun x => f1 x = true) a1 (by assumption) (by simp_all))⟩, by omega⟩
 ·refine VJ (Qn E Y ?_)
  clear E a; intro a E
  refine Qk (YM (k := k) E S Y Y Y QE (by omega) (by omega) (by omega) (by omega) ?_)
  clear E a S; rintro a w c7 E S
  replace S := S.madeI
  refine Qj E Y fun _ B => QI (QD 3 B Y ?_)
  clear E a B; intro a E
  obtain ⟨b9, c0, a4⟩ := h0.subv 0 k (by omega) (by omega)
  simp only [List.drop_zero] at a4
  replace a4 : Qy a2 b9 ((l0).take k) := a4
  refine Uf E Y Y QE c0 ?_
  clear E a; intro a E
  refine Qk (VY (xs := (List.replicate k (0 : Int))) (ys := (l0).take k) E S Y Y Y QE a4 ?_)
  clear E a S; rintro a w E S
  refine QI (QD 2 E Y ?_)
  clear E a; intro a E
  refine Jj ?_
  have S0 := S; clear S
  obtain ⟨c1, c2, c3, S⟩ := S0.freezeI (by (simp; omega))
  clear S0
  exact Qa E Tryz.results153 Y ⟨_, Y, c1, (a0.trans c2), (QX.eqL c3 (by (rw [List.length_replicate, List.take_take, Nat.min_self, List.drop_eq_nil_of_le (by simp; omega), List.append_nil]; first | exact yj a1 (.inl (by omega)) | exact yj a1 (.inr ⟨_, by assumption, by simp_all⟩)))), S⟩
theorem Pred_of_c {M : Hp} {pk0 pn0 : Int} {w0 : Value} {pl0 : List Int} (hw0 : Qy M w0 pl0) (gn0 : -9223372036854775808 ≤ pn0 ∧ pn0 ≤ 9223372036854775807){x1 : Int} :
  PuC Tryz.prog 154 M [.agg #[.int .i64 pk0, .int .i64 pn0, w0], .int .i64 x1] (fun r M' => r = .bool (Jv pk0 pn0 pl0 x1 0)) := by
 refine Wi Tryz.func154 Y Tryz.ntmps154 Y ?_
 intro a w M1 H hM1 S E
 replace hw0 := hw0.le hM1
 refine Qs ?_
 refine Qk (QA (cs := #[.int .i64 pk0, .int .i64 pn0, w0]) E S Y Y Y ?_)
 clear E a S; rintro a w a4 E S
 obtain ⟨a5, a0, a2, S⟩ := S.freezeB
 replace hw0 := hw0.le a0
 refine Qj E Y fun _ B => QI (Za B Y (Tryz.isAgg27 _) (Tryz.sizeOf27 _) S.imm a2 fun _ C => Qn C Y ?_)
 clear E a B C; intro a E
 refine Qk (Qm E S Y Y Y (jc hw0 (by omega)) lerf ?_)
 clear E a S; rintro a _ w a3 a1 rfl S E
 replace hw0 := hw0.le a1
 refine Qj E Y ?_
 clear E a; intro a E
 refine Jj ?_
 exact Qa E Tryz.results154 Y ⟨_, Y, a3, (a0.trans a1), Y, S⟩
theorem GJ {M : Hp} {pk0 pn0 : Int} {w0 : Value} {pl0 : List Int} (hw0 : Qy M w0 pl0) (gn0 : -9223372036854775808 ≤ pn0 ∧ pn0 ≤ 9223372036854775807){x1 : Int} :
  Pu Tryz.prog (.func (.func 154) #[.agg #[.int .i64 pk0, .int .i64 pn0, w0]] #[]) M [.int .i64 x1] (fun r M' => r = .bool (Jv pk0 pn0 pl0 x1 0)) := PuC.pu Tryz.call154 rfl (Pred_of_c hw0 gn0)
theorem Pred_of_d {M : Hp} {pk0 pn0 : Int} {w0 : Value} {pl0 : List Int} (hw0 : Qy M w0 pl0) (gn0 : -9223372036854775808 ≤ pn0 ∧ pn0 ≤ 9223372036854775807){x1 : Int} :
  Pu Tryz.prog (.func (.func 154) #[] #[]) M [.agg #[.int .i64 pk0, .int .i64 pn0, w0], .int .i64 x1] (fun r M' => r = .bool (Jv pk0 pn0 pl0 x1 0)) := PuC.pu Tryz.call154 rfl (Pred_of_c hw0 gn0)
theorem va {M : Hp} {v0 : Value} {l0 : List Int} (h0 : Qy M v0 l0){pk1 pn1 : Int} {w1 : Value} {pl1 : List Int} (hw1 : Qy M w1 pl1) (gn1 : -9223372036854775808 ≤ pn1 ∧ pn1 ≤ 9223372036854775807) (hb : l0.length ≤ 1000000000000) :
  Pu Tryz.prog (.func (.func 60) #[] #[]) M [v0, .agg #[.int .i64 pk1, .int .i64 pn1, w1]] (fun r M' => Qy M' r ((l0).takeWhile (fun x => Jv pk1 pn1 pl1 x 0))) := by
 refine Qd Tryz.func60 Y Tryz.ntmps60 Y Tryz.call60 ?_
 intro a w M1 H hM1 S E
 replace h0 := h0.le hM1
 replace hw1 := hw1.le hM1
 have b0 := h0.bound
 have hwl := twlen (fun x => Jv pk1 pn1 pl1 x 0) l0
 refine Qs ?_
 refine Qk (QA (cs := #[.int .i64 pk1, .int .i64 pn1, w1]) E S Y Y Y ?_)
 clear E a S; rintro a w a5 E S
 obtain ⟨a6, a0, a1, S⟩ := S.freezeB
 replace h0 := h0.le a0
 replace hw1 := hw1.le a0
 refine Qj E Y fun _ B => QI (Qn B Y fun _ C => Za C Y (Tryz.isAgg27 _) (Tryz.sizeOf27 _) S.imm a1 fun _ D => Qv D Y Y ?_)
 clear E a B C D; intro a E
 refine Qk (Qm E S Y Y Y (lo_TakeWhile h0 ⟨Y, fun zx1 => GJ (x1 := zx1) hw1 (by omega)⟩ (by (omega))) lerf ?_)
 clear E a S; rintro a a7 w a2 a3 a4 S E
 refine Qj E Y ?_
 clear E a; intro a E
 refine Jj ?_
 exact Qa E Tryz.results60 Y ⟨_, Y, a2, (a0.trans a3), a4, S⟩
theorem qM {M : Hp} {v0 : Value} {l0 : List Int} (h0 : Qy M v0 l0){v1 : Value} {f1 : Int → Bool} (h1 : Gj Tryz.prog v1 M f1) (hb : l0.length ≤ 1000000000000) :
  Pu Tryz.prog (.func (.func 155) #[] #[]) M [v0, v1] (fun r M' => Qy M' r ((l0).dropWhile f1)) := by
 refine Qd Tryz.func155 Y Tryz.ntmps155 Y Tryz.call155 ?_
 intro a w M1 H hM1 S E
 replace h0 := h0.le hM1
 replace h1 := h1.le hM1
 have b0 := h0.bound
 refine Qs (Qj E Y fun _ B => QI (Qj B Y ?_))
 clear E a B; intro a E
 refine ZJ (QW ?_)
 refine QN (γ := Nat) (fun (k : Nat) a w => ∃ (a2 : Hp), Hp.le M1 a2 ∧ St w a2 (H) ∧ Env a 30 [] [(0, v0), (1, v1), (5, .int .i64 ((k : Nat) : Int))] ∧ (k ≤ (l0).length) ∧ (∀ x ∈ l0.take k, f1 x = true)) (fun k => ((l0).length) - k) 0 ⟨M1, lerf, S, E.keep ⟨Y, Y, Y, trivial⟩, by (omega), (by simp)⟩ ?_
 try clear E
 try clear S
 try clear a
 try clear w
 rintro k a w ⟨a2, a0, S, E, c4, a1⟩
 replace h0 := h0.le a0
 replace h1 := h1.le a0
 refine UK (QD 2 E Y fun _ B => Qt B Y QE h0.len fun _ C => Jc C Y Y ?_)
 clear E a B C; intro a E
 refine Qz ?_
 refine Ql E Y (fun a8 => ?_) (fun a8 => ?_)
 ·refine YZ (QD 3 E Y ?_)
  clear E a; intro a E
  obtain ⟨a9, b1⟩ : ∃ x, (l0)[k]? = some x := ⟨_, List.getElem?_eq_getElem (by omega)⟩
  obtain ⟨c5, b2, b3⟩ := h0.at b1
  refine QZ E Y Y QE b2 Y fun _ B => Qb B Y Tryz.isAgg3 S.imm b3 ?_
  clear E a B; intro a E
  refine Qk (Qm E S Y Y Y (h1.2 a9) lerf ?_)
  clear E a S; rintro a _ w a6 a5 rfl S E
  replace h0 := h0.le a5
  refine Ji E Y ?_
  clear E a; intro a E
  refine Qz ?_
  refine Jf E Y (fun b4 => ?_) (fun b4 => ?_)
  ·refine JO ?_
   refine B_y Y ?_
   refine J_v (Qn E Y fun _ B => Qt B Y QE h0.len fun _ C => Qn C Y fun _ D => JT (m := (((l0).length - k : Nat) : Int)) D Y Y ?_)
   clear E a B C D; intro a E
   refine Qk (JD (k := (l0).length - k) E S Y Y Y QE Y (by omega) (by omega) (by omega) ?_)
   clear E a S; rintro a w c6 E S
   replace S := S.made0
   refine Qj E Y fun _ B => QI (QD 3 B Y ?_)
   clear E a B; intro a E
   obtain ⟨b5, b6, a3⟩ := h0.subv k ((l0).length) (by omega) (by omega)
   simp only [List.take_length] at a3
   replace a3 : Qy a6 b5 ((l0).drop k) := a3
   refine Gf E Y Y QE h0.len b6 ?_
   clear E a; intro a E
   refine Qk (JJ (xs := ([] : List Int)) E S Y Y Y QE a3 (by (simp; omega)) ?_)
   clear E a S; rintro a w c7 E S
   refine Qj E Y ?_
   clear E a; intro a E
   refine Jj ?_
   have S0 := S; clear S
   obtain ⟨b7, a7, b8, S⟩ := S0.freezeI (by ((simp; omega)))
   clear S0
   replace h0 := h0.le a7
   exact Qa E Tryz.results155 Y ⟨_, Y, b7, (a0.trans (a5.trans a7)), (QX.eqL b8 (by (rw [List.nil_append]; first | exact zh a1 (.inl (by omega)) | exact zh a1 (.inr ⟨_, by assumption, by simp_all⟩)))), S⟩
  ·refine Qx ?_
   refine WN (Qn E Y fun _ B => Qp (m := ((k + 1 : Nat) : Int)) B Y Y fun _ C => Qj C Y ?_)
   clear E a B C; intro a E
   refine Qz ?_
   exact ⟨k + 1, ⟨a6, (a0.trans a5), S, E.keep ⟨Y, Y, Y, trivial⟩, by (omega), (by exact yo (P := fun x => f1 x = true) a1 (by assumption) (by simp_all))⟩, by omega⟩
 ·refine VJ (Qn E Y fun _ B => Qt B Y QE h0.len fun _ C => Qn C Y fun _ D => JT (m := (((l0).length - k : Nat) : Int)) D Y Y ?_)
  clear E a B C D; intro a E
  refine Qk (JD (k := (l0).length - k) E S Y Y Y QE Y (by omega) (by omega) (by omega) ?_)
  clear E a S; rintro a w c8 E S
  replace S := S.made0
  refine Qj E Y fun _ B => QI (QD 3 B Y ?_)
  clear E a B; intro a E
  obtain ⟨b9, c0, a4⟩ := h0.subv k ((l0).length) (by omega) (by omega)
  simp only [List.take_length] at a4
  replace a4 : Qy a2 b9 ((l0).drop k) := a4
  refine Gf E Y Y QE h0.len c0 ?_
  clear E a; intro a E
  refine Qk (JJ (xs := ([] : List Int)) E S Y Y Y QE a4 (by (simp; omega)) ?_)
  clear E a S; rintro a w c9 E S
  refine Qj E Y ?_
  clear E a; intro a E
  refine Jj ?_
  have S0 := S; clear S
  obtain ⟨c1, c2, c3, S⟩ := S0.freezeI (by ((simp; omega)))
  clear S0
  exact Qa E Tryz.results155 Y ⟨_, Y, c1, (a0.trans c2), (QX.eqL c3 (by (rw [List.nil_append]; first | exact zh a1 (.inl (by omega)) | exact zh a1 (.inr ⟨_, by assumption, by simp_all⟩)))), S⟩
theorem vi {M : Hp} {v0 : Value} {l0 : List Int} (h0 : Qy M v0 l0){pk1 pn1 : Int} {w1 : Value} {pl1 : List Int} (hw1 : Qy M w1 pl1) (gn1 : -9223372036854775808 ≤ pn1 ∧ pn1 ≤ 9223372036854775807) (hb : l0.length ≤ 1000000000000) :
  Pu Tryz.prog (.func (.func 61) #[] #[]) M [v0, .agg #[.int .i64 pk1, .int .i64 pn1, w1]] (fun r M' => Qy M' r ((l0).dropWhile (fun x => Jv pk1 pn1 pl1 x 0))) := by
 refine Qd Tryz.func61 Y Tryz.ntmps61 Y Tryz.call61 ?_
 intro a w M1 H hM1 S E
 replace h0 := h0.le hM1
 replace hw1 := hw1.le hM1
 have b0 := h0.bound
 have hwl := vv (fun x => Jv pk1 pn1 pl1 x 0) l0
 refine Qs ?_
 refine Qk (QA (cs := #[.int .i64 pk1, .int .i64 pn1, w1]) E S Y Y Y ?_)
 clear E a S; rintro a w a5 E S
 obtain ⟨a6, a0, a1, S⟩ := S.freezeB
 replace h0 := h0.le a0
 replace hw1 := hw1.le a0
 refine Qj E Y fun _ B => QI (Qn B Y fun _ C => Za C Y (Tryz.isAgg27 _) (Tryz.sizeOf27 _) S.imm a1 fun _ D => Qv D Y Y ?_)
 clear E a B C D; intro a E
 refine Qk (Qm E S Y Y Y (qM h0 ⟨Y, fun zx1 => GJ (x1 := zx1) hw1 (by omega)⟩ (by (omega))) lerf ?_)
 clear E a S; rintro a a7 w a2 a3 a4 S E
 refine Qj E Y ?_
 clear E a; intro a E
 refine Jj ?_
 exact Qa E Tryz.results61 Y ⟨_, Y, a2, (a0.trans a3), a4, S⟩
theorem UG {M : Hp} {v0 : Value} {l0 : List Int} (h0 : Qy M v0 l0){v1 : Value} {f1 : Int → Bool} (h1 : Gj Tryz.prog v1 M f1) (hb : l0.length ≤ 1000000000000) :
  Pu Tryz.prog (.func (.func 156) #[] #[]) M [v0, v1] (fun r M' => Qy M' r (VE f1 l0)) := by
 refine Qd Tryz.func156 Y Tryz.ntmps156 Y Tryz.call156 ?_
 intro a w M1 H hM1 S E
 replace h0 := h0.le hM1
 replace h1 := h1.le hM1
 have b0 := h0.bound
 refine Qs (Qj E Y fun _ B => QI (Qn B Y fun _ C => Qt C Y QE h0.len fun _ D => JT (m := (((l0).length : Nat) : Int) - 1) D Y Y fun _ F => Qj F Y ?_))
 clear E a B C D F; intro a E
 refine ZJ (QW ?_)
 refine QN (γ := Nat) (fun (k : Nat) a w => ∃ (a2 : Hp), Hp.le M1 a2 ∧ St w a2 (H) ∧ Env a 30 [] [(0, v0), (1, v1), (5, .int .i64 ((l0.length : Int) - 1 - (k : Int)))] ∧ (k ≤ l0.length) ∧ (∀ x ∈ l0.drop (l0.length - k), f1 x = true)) (fun k => l0.length - k) 0 ⟨M1, lerf, S, E.keep ⟨Y, Y, Ye (i := (((l0).length : Nat) : Int) - 1) Y (by (simp)), trivial⟩, by (omega), (by simp)⟩ ?_
 try clear E
 try clear S
 try clear a
 try clear w
 rintro k a w ⟨a2, a0, S, E, c4, a1⟩
 replace h0 := h0.le a0
 replace h1 := h1.le a0
 refine UK (Qn E Y fun _ B => Wc B Y Y ?_)
 clear E a B; intro a E
 refine Qz ?_
 refine Ql E Y (fun a8 => ?_) (fun a8 => ?_)
 ·refine YZ (QD 3 E Y ?_)
  clear E a; intro a E
  obtain ⟨a9, b1⟩ : ∃ x, (l0)[l0.length - 1 - k]? = some x := ⟨_, List.getElem?_eq_getElem (by omega)⟩
  obtain ⟨c5, b2, b3⟩ := h0.at b1
  refine QZ E Y Y QE b2 (by omega) fun _ B => Qb B Y Tryz.isAgg3 S.imm b3 ?_
  clear E a B; intro a E
  refine Qk (Qm E S Y Y Y (h1.2 a9) lerf ?_)
  clear E a S; rintro a _ w a6 a5 rfl S E
  replace h0 := h0.le a5
  refine Ji E Y ?_
  clear E a; intro a E
  refine Qz ?_
  refine Jf E Y (fun b4 => ?_) (fun b4 => ?_)
  ·refine JO ?_
   refine B_y Y ?_
   refine J_v (Qn E Y fun _ B => Qp (m := ((l0.length : Int) - 1 - (k : Int)) + 1) B Y Y ?_)
   clear E a B; intro a E
   refine Qk (JD (k := (((l0.length : Int) - 1 - (k : Int)) + 1).toNat) E S Y Y Y QE Y (by omega) (by omega) (by omega) ?_)
   clear E a S; rintro a w c6 E S
   replace S := S.made0
   refine Qj E Y fun _ B => QI (QD 3 B Y fun _ C => Qp (m := ((l0.length : Int) - 1 - (k : Int)) + 1) C Y Y ?_)
   clear E a B C; intro a E
   obtain ⟨b5, b6, a3⟩ := h0.subv 0 ((((l0.length : Int) - 1 - (k : Int)) + 1).toNat) (by omega) (by omega)
   simp only [List.drop_zero] at a3
   replace a3 : Qy a6 b5 ((l0).take ((((l0.length : Int) - 1 - (k : Int)) + 1).toNat)) := a3
   refine Uf E Y Y QE b6 ?_
   clear E a; intro a E
   refine Qk (JJ (xs := ([] : List Int)) E S Y Y Y QE a3 (by (simp; omega)) ?_)
   clear E a S; rintro a w c7 E S
   refine Qj E Y ?_
   clear E a; intro a E
   refine Jj ?_
   have S0 := S; clear S
   obtain ⟨b7, a7, b8, S⟩ := S0.freezeI (by ((simp; omega)))
   clear S0
   replace h0 := h0.le a7
   exact Qa E Tryz.results156 Y ⟨_, Y, b7, (a0.trans (a5.trans a7)), (QX.eqL b8 (by (rw [List.nil_append, show ((l0.length : Int) - 1 - (k : Int) + 1).toNat = l0.length - k by omega]; first | exact zV (by omega) a1 (.inl (by omega)) | exact zV (by omega) a1 (.inr ⟨_, by assumption, by simp_all⟩)))), S⟩
  ·refine Qx ?_
   refine WN (Qn E Y fun _ B => JT (m := ((l0.length : Int) - 1 - (k : Int)) - 1) B Y Y fun _ C => Qj C Y ?_)
   clear E a B C; intro a E
   refine Qz ?_
   exact ⟨k + 1, ⟨a6, (a0.trans a5), S, E.keep ⟨Y, Y, Ye (i := ((l0.length : Int) - 1 - (k : Int)) - 1) Y (by (omega)), trivial⟩, (by omega), (by exact drop_all a1 (by omega) (by assumption) (by simp_all))⟩, by omega⟩
 ·refine VJ (Qn E Y fun _ B => Qp (m := ((l0.length : Int) - 1 - (k : Int)) + 1) B Y Y ?_)
  clear E a B; intro a E
  refine Qk (JD (k := (((l0.length : Int) - 1 - (k : Int)) + 1).toNat) E S Y Y Y QE Y (by omega) (by omega) (by omega) ?_)
  clear E a S; rintro a w c8 E S
  replace S := S.made0
  refine Qj E Y fun _ B => QI (QD 3 B Y fun _ C => Qp (m := ((l0.length : Int) - 1 - (k : Int)) + 1) C Y Y ?_)
  clear E a B C; intro a E
  obtain ⟨b9, c0, a4⟩ := h0.subv 0 ((((l0.length : Int) - 1 - (k : Int)) + 1).toNat) (by omega) (by omega)
  simp only [List.drop_zero] at a4
  replace a4 : Qy a2 b9 ((l0).take ((((l0.length : Int) - 1 - (k : Int)) + 1).toNat)) := a4
  refine Uf E Y Y QE c0 ?_
  clear E a; intro a E
  refine Qk (JJ (xs := ([] : List Int)) E S Y Y Y QE a4 (by (simp; omega)) ?_)
  clear E a S; rintro a w c9 E S
  refine Qj E Y ?_
  clear E a; intro a E
  refine Jj ?_
  have S0 := S; clear S
  obtain ⟨c1, c2, c3, S⟩ := S0.freezeI (by ((simp; omega)))
  clear S0
  exact Qa E Tryz.results156 Y ⟨_, Y, c1, (a0.trans c2), (QX.eqL c3 (by (rw [List.nil_append, show ((l0.length : Int) - 1 - (k : Int) + 1).toNat = l0.length - k by omega]; first | exact zV (by omega) a1 (.inl (by omega)) | exact zV (by omega) a1 (.inr ⟨_, by assumption, by simp_all⟩)))), S⟩
theorem GP {M : Hp} {v0 : Value} {l0 : List Int} (h0 : Qy M v0 l0){pk1 pn1 : Int} {w1 : Value} {pl1 : List Int} (hw1 : Qy M w1 pl1) (gn1 : -9223372036854775808 ≤ pn1 ∧ pn1 ≤ 9223372036854775807) (hb : l0.length ≤ 1000000000000) :
  Pu Tryz.prog (.func (.func 62) #[] #[]) M [v0, .agg #[.int .i64 pk1, .int .i64 pn1, w1]] (fun r M' => Qy M' r (VE (fun x => Jv pk1 pn1 pl1 x 0) l0)) := by
 refine Qd Tryz.func62 Y Tryz.ntmps62 Y Tryz.call62 ?_
 intro a w M1 H hM1 S E
 replace h0 := h0.le hM1
 replace hw1 := hw1.le hM1
 have b0 := h0.bound
 have hwl := GF (fun x => Jv pk1 pn1 pl1 x 0) l0
 refine Qs ?_
 refine Qk (QA (cs := #[.int .i64 pk1, .int .i64 pn1, w1]) E S Y Y Y ?_)
 clear E a S; rintro a w a5 E S
 obtain ⟨a6, a0, a1, S⟩ := S.freezeB
 replace h0 := h0.le a0
 replace hw1 := hw1.le a0
 refine Qj E Y fun _ B => QI (Qn B Y fun _ C => Za C Y (Tryz.isAgg27 _) (Tryz.sizeOf27 _) S.imm a1 fun _ D => Qv D Y Y ?_)
 clear E a B C D; intro a E
 refine Qk (Qm E S Y Y Y (UG h0 ⟨Y, fun zx1 => GJ (x1 := zx1) hw1 (by omega)⟩ (by (omega))) lerf ?_)
 clear E a S; rintro a a7 w a2 a3 a4 S E
 refine Qj E Y ?_
 clear E a; intro a E
 refine Jj ?_
 exact Qa E Tryz.results62 Y ⟨_, Y, a2, (a0.trans a3), a4, S⟩
theorem vS {M : Hp} {v0 : Value} {l0 : List Int} (h0 : Qy M v0 l0){v2 : Value} {f2 : Int → Int → Bool} (h2 : jP Tryz.prog v2 M f2) {x1 : Int} (g1 : 0 ≤ x1 ∧ x1 ≤ 1000000)(hb : l0.length ≤ 1000000000000) :
  Pu Tryz.prog (.func (.func 158) #[] #[]) M [v0, .int .i64 x1, v2] (fun r M' => Qy M' r ((QT f2 0 l0).take (x1 : Int).toNat)) := by
 refine Qd Tryz.func158 Y Tryz.ntmps158 Y Tryz.call158 ?_
 intro a w M1 H hM1 S E
 replace h0 := h0.le hM1
 replace h2 := h2.le hM1
 have b0 := h0.bound
 refine Qs (Qj E Y fun _ B => Zp (Qn B Y fun _ C => Jc C Y Y ?_))
 clear E a B C; intro a E
 refine Qz ?_
 have a7 : (decide (x1 < 0)) = false := by (apply decide_eq_false; omega)
 refine QF E Y a7 ?_
 refine je (Qn E Y fun _ B => QK B Y Y ?_)
 clear E a B; intro a E
 refine Qz ?_
 refine Ql E Y (fun a8 => ?_) (fun a8 => ?_)
 ·refine Qs ?_
  refine Qk (JD (k := 0) E S Y Y Y QE Y (by omega) (by omega) (by omega) ?_)
  clear E a S; rintro a w c5 E S
  replace S := S.made0
  refine Qj E Y ?_
  clear E a; intro a E
  refine UJ ?_
  have S0 := S; clear S
  obtain ⟨a9, a2, b1, S⟩ := S0.freezeI (by ((simp; done)))
  clear S0
  replace h0 := h0.le a2
  replace h2 := h2.le a2
  exact Qa E Tryz.results158 Y ⟨_, Y, a9, a2, (QX.eqL b1 (by (rw [show x1.toNat = 0 by omega]; simp))), S⟩
 ·refine VC (Qn E Y ?_)
  clear E a; intro a E
  refine Qk (JD (k := (x1).toNat) E S Y Y Y QE Y (by omega) (by omega) (by omega) ?_)
  clear E a S; rintro a w c6 E S
  replace S := S.made0
  refine Qj E Y fun _ B => QI (Qj B Y fun _ C => Zp (Qn C Y fun _ D => Qt D Y QE h0.len fun _ F => Qn F Y ?_))
  clear E a B C D F; intro a E
  refine ZH ?_
  replace S := S.re1 (l' := QT f2 0 (l0.take 0)) (by (simp [QT]; done))
  refine QN (γ := Nat) (fun (k : Nat) a w => ∃ (a3 : Hp) (u7 : Value), Hp.le M1 a3 ∧ St w a3 (Jg 3 u7 (QT f2 0 (l0.take k)) :: H) ∧ Env a 44 [] [(0, v0), (1, .int .i64 x1), (2, v2), (7, u7), (8, .int .i64 (((QT f2 0 (l0.take k)).length : Nat) : Int)), (19, .int .i64 (((l0).length : Nat) : Int)), (20, .int .i64 ((k : Nat) : Int))] ∧ (k ≤ (l0).length) ∧ ((QT f2 0 (l0.take k)).length < x1.toNat)) (fun k => ((l0).length) - k) 0 ⟨M1, _, lerf, S, E.keep ⟨Y, Y, Y, Y, Jr (i := 0) Y (by (simp [QT])), Y, Y, trivial⟩, by (omega), (by simp [QT]; omega)⟩ ?_
  try clear E
  try clear S
  try clear a
  try clear w
  rintro k a w ⟨a3, u7, a0, S, E, c7, c8⟩
  replace h0 := h0.le a0
  replace h2 := h2.le a0
  have wl := Zs f2 (l0.take k) 0; simp only [List.length_take] at wl
  refine Qs (Jc E Y Y ?_)
  clear E a; intro a E
  refine ZJ ?_
  refine Ql E Y (fun b2 => ?_) (fun b2 => ?_)
  ·refine YZ (QD 2 E Y fun _ B => QI (QD 3 B Y ?_))
   clear E a B; intro a E
   obtain ⟨a4, a5⟩ : ∃ x, (l0)[k]? = some x := ⟨_, List.getElem?_eq_getElem (by omega)⟩
   obtain ⟨c9, b3, b4⟩ := h0.at a5
   refine QZ E Y Y QE b3 Y fun _ B => Qb B Y Tryz.isAgg3 S.imm b4 fun _ C => Qn C Y ?_
   clear E a B C; intro a E
   refine Qk (Qm E S Y Y Y (h2.2 a4 ((k : Nat) : Int)) lerf ?_)
   clear E a S; rintro a _ w a6 a1 rfl S E
   replace h0 := h0.le a1
   refine Qz ?_
   refine Jf E Y (fun b5 => ?_) (fun b5 => ?_)
   ·refine Je ?_
    refine Qh (QD 3 E Y ?_)
    clear E a; intro a E
    obtain ⟨d0, b6, b7⟩ := h0.at a5
    refine QZ E Y Y QE b6 Y fun _ B => Qb B Y Tryz.isAgg3 S.imm b7 ?_
    clear E a B; intro a E
    refine Qk (QV (ys := [a4]) E S Y QE Y Y Y ?_)
    clear E a S; rintro a w d1 E S
    replace S := S.front1.front1
    refine Qk (JF (xs := QT f2 0 (l0.take k)) (ys := [a4]) E S Y Y Y QE (by (simp at wl ⊢; omega)) ?_)
    clear E a S; rintro a w d2 E S
    refine Qj E Y fun _ B => QI (Qn B Y fun _ C => Qp (m := (((QT f2 0 (l0.take k)).length + 1 : Nat) : Int)) C Y Y fun _ D => Qj D Y fun _ F => QI (QD 2 F Y fun _ G => Wc G Y Y ?_))
    clear E a B C D F G; intro a E
    refine Qz ?_
    refine Ql E Y (fun b8 => ?_) (fun b8 => ?_)
    ·refine JO ?_
     refine B_y Y ?_
     refine J_v (QD 2 E Y ?_)
     clear E a; intro a E
     refine Jj ?_
     have S0 := S; clear S
     obtain ⟨b9, c0, c1, S⟩ := S0.freezeI (by (have wl := Zs f2 (l0.take k) 0; simp at wl ⊢; omega))
     clear S0
     exact Qa E Tryz.results158 Y ⟨_, Y, b9, (a0.trans (a1.trans c0)), (QX.eqL c1 (by ((symm; apply Ux (filtI_step (by assumption) (by assumption)); simp; omega)))), S⟩
    ·refine zu (Qp (m := ((k + 1 : Nat) : Int)) E Y Y fun _ B => Qn B Y ?_)
     clear E a B; intro a E
     refine Qz ?_
     replace S := S.re1 (l' := QT f2 0 (l0.take (k + 1))) (by (rw [Zb (by assumption)]; simp [*]; done))
     exact ⟨k + 1, ⟨a6, _, (a0.trans a1), S, E.keep ⟨Y, Y, Y, Y, Jr (i := (QT f2 0 (l0.take k)).length + 1) Y (by ((rw [Zb (by assumption)]; simp [*]; done))), Y, Y, trivial⟩, by (omega), (by (rw [Zb (by assumption)]; simp [*]; omega))⟩, by omega⟩
   ·refine Qx ?_
    refine WN (Qp (m := ((k + 1 : Nat) : Int)) E Y Y fun _ B => Qn B Y ?_)
    clear E a B; intro a E
    refine Qz ?_
    replace S := S.re1 (l' := QT f2 0 (l0.take (k + 1))) (by (rw [Zb (by assumption)]; simp [*]; done))
    exact ⟨k + 1, ⟨a6, _, (a0.trans a1), S, E.keep ⟨Y, Y, Y, Y, Jr (i := (QT f2 0 (l0.take k)).length) Y (by ((rw [Zb (by assumption)]; simp [*]; done))), Y, Y, trivial⟩, by (omega), (by (rw [Zb (by assumption)]; simp_all; done))⟩, by omega⟩
  ·refine VJ (QD 2 E Y ?_)
   clear E a; intro a E
   refine Jj ?_
   have S0 := S; clear S
   obtain ⟨c2, c3, c4, S⟩ := S0.freezeI (by (have wl := Zs f2 (l0.take k) 0; simp at wl ⊢; omega))
   clear S0
   exact Qa E Tryz.results158 Y ⟨_, Y, c2, (a0.trans c3), (QX.eqL c4 (by ((rw [List.take_of_length_le (l := l0) (by omega)] at *; rw [List.take_of_length_le (by omega)]; done)))), S⟩
theorem zN {M : Hp} {v0 : Value} {l0 : List Int} (hb : l0.length ≤ 1000000000000) {c1 : Int} (g1 : 0 ≤ c1 ∧ c1 ≤ 1000000) {bx0 bx1 : Nat} (hbx0 : M bx0 = some (.cells #[v0] 22)) (h0 : Qy M v0 l0) (hbx1 : M bx1 = some (.cells #[.int .i64 c1] 3)) {pk2 pn2 : Int} {w2 : Value} {pl2 : List Int} (hw2 : Qy M w2 pl2) (gn2 : -9223372036854775808 ≤ pn2 ∧ pn2 ≤ 9223372036854775807) {bx2 : Nat} (hbx2 : M bx2 = some (.cells #[.int .i64 pk2, .int .i64 pn2, w2] 27)) :
  Pu Tryz.prog (.func (.func 157) #[] #[.pointer (some ⟨bx0, 0, none⟩), .pointer (some ⟨bx1, 0, none⟩), .pointer (some ⟨bx2, 0, none⟩)]) M [] (fun r M' => Qy M' r ((QT (Jv pk2 pn2 pl2) 0 l0).take (c1 : Int).toNat)) := by
 refine Qd Tryz.func157 Y Tryz.ntmps157 Y Tryz.call157 ?_
 intro a w M1 H hM1 S E
 replace hbx0 := hM1.2 _ _ hbx0
 replace hbx1 := hM1.2 _ _ hbx1
 replace h0 := h0.le hM1
 replace hbx2 := hM1.2 _ _ hbx2
 replace hw2 := hw2.le hM1
 have b0 := h0.bound
 have hfl := Zs (Jv pk2 pn2 pl2) l0 0
 refine Qs (Qj E Y fun _ B => QI (Qb B Y Tryz.isAgg22 S.imm (Qf hbx0) fun _ C => Qb C Y Tryz.isAgg3 S.imm (Qf hbx1) fun _ D => Za D Y (Tryz.isAgg27 _) (Tryz.sizeOf27 _) S.imm hbx2 fun _ F => Qv F Y Y ?_))
 clear E a B C D F; intro a E
 refine Qk (Qm E S Y Y Y (vS h0 ⟨Y, fun zx1 zx2 => GK (x1 := zx1) (x2 := zx2) hw2 (by omega)⟩ (by omega) (by (omega))) lerf ?_)
 clear E a S; rintro a a3 w a0 a1 a2 S E
 refine Qj E Y ?_
 clear E a; intro a E
 refine Jj ?_
 exact Qa E Tryz.results157 Y ⟨_, Y, a0, a1, a2, S⟩
theorem jA {M : Hp} {v0 : Value} {l0 : List Int} (h0 : Qy M v0 l0){x1 : Int} {pk2 pn2 : Int} {w2 : Value} {pl2 : List Int} (hw2 : Qy M w2 pl2) (gn2 : -9223372036854775808 ≤ pn2 ∧ pn2 ≤ 9223372036854775807) (hb : l0.length ≤ 1000000000000) (g1 : 0 ≤ x1 ∧ x1 ≤ 1000000) :
  Pu Tryz.prog (.func (.func 63) #[] #[]) M [v0, .int .i64 x1, .agg #[.int .i64 pk2, .int .i64 pn2, w2]] (fun r M' => ∃ t0, r = .tuple #[t0, .bool true] ∧ Qy M' t0 ((QT (Jv pk2 pn2 pl2) 0 l0).take (x1 : Int).toNat)) := by
 refine Qd Tryz.func63 Y Tryz.ntmps63 Y Tryz.call63 ?_
 intro a w M1 H hM1 S E
 replace h0 := h0.le hM1
 replace hw2 := hw2.le hM1
 have b0 := h0.bound
 refine Qs ?_
 refine Qk (QA (cs := #[v0]) E S Y Y (cells_one (QX.one' h0)) ?_)
 clear E a S; rintro a w a9 E S
 obtain ⟨b1, a3, a0, S⟩ := S.freezeB
 replace h0 := h0.le a3
 replace hw2 := hw2.le a3
 refine Qk (QA (cs := #[.int .i64 x1]) E S Y Y Y ?_)
 clear E a S; rintro a w b2 E S
 obtain ⟨b3, a2, a4, S⟩ := S.freezeB
 replace h0 := h0.le a2
 replace hw2 := hw2.le a2
 replace a0 := a2.2 _ _ a0
 refine Qk (QA (cs := #[.int .i64 pk2, .int .i64 pn2, w2]) E S Y Y Y ?_)
 clear E a S; rintro a w b4 E S
 obtain ⟨b5, a1, a5, S⟩ := S.freezeB
 replace h0 := h0.le a1
 replace hw2 := hw2.le a1
 replace a0 := a1.2 _ _ a0
 replace a4 := a1.2 _ _ a4
 refine QD 2 E Y fun _ B => QI (Qv B Y Y ?_)
 clear E a B; intro a E
 refine Qk (Qm E S Y Y Y (Yy ⟨Y, zN  (by omega) (by omega) a0 h0 a4 hw2 (by omega) a5⟩) lerf ?_)
 clear E a S; rintro a _ w a6 a7 ⟨b6, rfl, a8⟩ S E
 refine Qg E Y Y fun _ B => Qg B Y Y fun _ C => QD 2 C Y ?_
 clear E a B C; intro a E
 refine Jj ?_
 exact Zr E Tryz.results63 Y Y ⟨_, Y, a6, (a3.trans (a2.trans (a1.trans a7))), ⟨_, (by rfl), (QX.eqL a8 (by (rfl)))⟩, S⟩
theorem ZE {M : Hp} {v0 : Value} {l0 : List Int} (h0 : Qy M v0 l0) :
  Sp Tryz.prog (.func (.func 240) #[] #[]) M [v0] [] (fun r M' C' => ∃ b, r = .map (some b) ∧ C' = [Zg b (Qw l0)]) := by
 refine UB Tryz.func240 Y Tryz.ntmps240 Y Tryz.call240 ?_
 intro a w M1 H hM1 S E
 replace h0 := h0.le hM1
 have b0 := h0.bound
 refine Qs (Qj E Y fun _ B => QI (Qn B Y fun _ C => Qt C Y QE h0.len ?_))
 clear E a B C; intro a E
 refine Qk (YC E S Y Yp Y ?_)
 clear E a S; rintro a w a1 E S
 replace S : St w M1 (Zg a1 ([] : List Int) :: _) := S
 refine Qj E Y fun _ B => Zp (Qn B Y fun _ C => Qt C Y QE h0.len fun _ D => Qn D Y ?_)
 clear E a B C D; intro a E
 refine ZH ?_
 replace S := S.reM (L' := (Sl.encS (Qw (l0.take 0)))) (congrArg Sl.encS (show ([] : List Int) = Qw (l0.take 0) by first | (simp [Qw]; done) | exact (VO (by assumption)).symm))
 refine QN (γ := Nat) (fun (k : Nat) a w => ∃ (a0 : Hp), Hp.le M1 a0 ∧ St w a0 (Zg a1 (Qw (l0.take k)) :: H) ∧ Env a 21 [] [(0, v0), (3, .map (some a1)), (9, .int .i64 (((l0).length : Nat) : Int)), (10, .int .i64 ((k : Nat) : Int))] ∧ (k ≤ (l0).length)) (fun k => ((l0).length) - k) 0 ⟨M1, lerf, S, E.keep ⟨Y, Y, Y, Y, trivial⟩, by (omega)⟩ ?_
 try clear E
 try clear S
 try clear a
 try clear w
 rintro k a w ⟨a0, a2, S, E, a8⟩
 replace h0 := h0.le a2
 refine Qs (Jc E Y Y ?_)
 clear E a; intro a E
 refine ZJ ?_
 refine Ql E Y (fun a3 => ?_) (fun a3 => ?_)
 ·refine YZ (QD 2 E Y fun _ B => zw (QD 3 B Y ?_))
  clear E a B; intro a E
  obtain ⟨a4, a5⟩ : ∃ x, (l0)[k]? = some x := ⟨_, List.getElem?_eq_getElem (by omega)⟩
  obtain ⟨a9, a6, a7⟩ := h0.at a5
  refine QZ E Y Y QE a6 Y fun _ B => Qb B Y Tryz.isAgg3 S.imm a7 fun _ C => UI (u := .agg #[]) (vs := []) C Y (fun w => WG  w) ?_
  clear E a B C; intro a E
  refine Jm (VQ E S Yp Y Y Y ?_)
  clear E a S; rintro a w E S
  refine Wj (Qp (m := ((k + 1 : Nat) : Int)) E Y Y fun _ B => Qn B Y ?_)
  clear E a B; intro a E
  refine Qz ?_
  replace S := S.reM (L' := (Sl.encS (Qw (l0.take (k + 1))))) (congrArg Sl.encS (show Ym (Qw (l0.take k)) a4 = Qw (l0.take (k + 1)) by first | (simp [Qw]; done) | exact (VO (by assumption)).symm))
  exact ⟨k + 1, ⟨a0, a2, S, E.keep ⟨Y, Y, Y, Y, trivial⟩, by (omega)⟩, by omega⟩
 ·refine VJ (QD 2 E Y ?_)
  clear E a; intro a E
  refine Jj ?_
  replace S := S.reM (L' := (Sl.encS (Qw l0))) (congrArg Sl.encS (show Qw (l0.take k) = Qw l0 by (rw [List.take_of_length_le (by omega)])))
  exact Qa E Tryz.results240 Y ⟨_, Y, a0, _, a2, ⟨_, Y, Y⟩, S⟩
theorem vO {M : Hp} {v0 v1 : Value} {l0 l1 : List Int} (h0 : Qy M v0 l0) (h1 : Qy M v1 l1)(hb : l0.length ≤ 1000000000000) :
  Pu Tryz.prog (.func (.func 159) #[] #[]) M [v0, v1] (fun r M' => Qy M' r (VG l0 l1)) := by
 refine Qd Tryz.func159 Y Tryz.ntmps159 Y Tryz.call159 ?_
 intro a w M1 H hM1 S E
 replace h0 := h0.le hM1
 replace h1 := h1.le hM1
 have b0 := h0.bound
 have b1 := h1.bound
 refine Qs (Qj E Y fun _ B => QI (Qn B Y ?_))
 clear E a B; intro a E
 refine Qk (VF (p := []) E S Y Y Y (ZE h1) lerf ?_)
 clear E a S; rintro a _ w a3 _ a5 ⟨a1, rfl, rfl⟩ S E
 replace S : St w a3 (Zg a1 (Qw l1) :: _) := S
 replace h0 := h0.le a5
 refine Qj E Y fun _ B => QI (Qn B Y fun _ C => Qt C Y QE h0.len ?_)
 clear E a B C; intro a E
 refine Qk (JD (k := (l0).length) E S Y Y Y QE Y (by omega) (by omega) (by omega) ?_)
 clear E a S; rintro a w b9 E S
 replace S := S.made0
 refine Qj E Y fun _ B => Zp (Qn B Y fun _ C => Qt C Y QE h0.len fun _ D => Qn D Y ?_)
 clear E a B C D; intro a E
 refine ZH ?_
 replace S := S.re1 (l' := VG (l0.take 0) (Qw l1)) (by (unfold VG; first | (simp [QT]; done) | (rw [Zb (by assumption)]; simp_all; done) | (rw [Zb (List.getElem?_eq_getElem (show k < l0.length by omega))]; simp_all; done)))
 refine QN (γ := Nat) (fun (k : Nat) a w => ∃ (a0 : Hp) (u6 : Value), Hp.le a3 a0 ∧ St w a0 (Jg 3 u6 (VG (l0.take k) (Qw l1)) :: Zg a1 (Qw l1) :: H) ∧ Env a 37 [] [(0, v0), (5, .map (some a1)), (6, u6), (16, .int .i64 (((l0).length : Nat) : Int)), (17, .int .i64 ((k : Nat) : Int))] ∧ (k ≤ (l0).length)) (fun k => ((l0).length) - k) 0 ⟨a3, _, lerf, S, E.keep ⟨Y, Y, Y, Y, Y, trivial⟩, by (omega)⟩ ?_
 try clear E
 try clear S
 try clear a
 try clear w
 rintro k a w ⟨a0, u6, a2, S, E, c0⟩
 replace h0 := h0.le a2
 have wl := Zs (fun _ i => !decide (i ∈ Qw l1)) (l0.take k) 0
 refine Qs (Jc E Y Y ?_)
 clear E a; intro a E
 refine ZJ ?_
 refine Ql E Y (fun a8 => ?_) (fun a8 => ?_)
 ·refine YZ (QD 2 E Y fun _ B => QI (QD 2 B Y ?_))
  clear E a B; intro a E
  replace S := S.front1
  refine Qk (Ya E S Y Yp Y Y ?_)
  clear E a S; rintro a w E S
  replace S : St w a0 (Zg a1 (Qw l1) :: _) := S
  refine Qn E Y fun _ B => Qg B Y Y fun _ C => Qg C Y Y ?_
  clear E a B C; intro a E
  refine Qk (Ja (cs := #[]) E S Y Tryz.zeroValue117 Y ?_)
  clear E a S; rintro a w a9 E S
  refine Jm (Zv (us := []) E S Y Y (Tryz.sizeOf117 _) Y (by intro u hu; cases hu) ?_)
  clear E a S; rintro a w E S
  replace S : St w a0 (Jk a9 (.cells #[] 117) :: _) := S
  have S0 := S; clear S
  obtain ⟨a6, a4, c1, S⟩ := S0.freezeB
  clear S0
  replace h0 := h0.le a4
  refine Qj E Y fun _ B => QI (Qn B Y fun _ C => Ji C Y ?_)
  clear E a B C; intro a E
  refine Qz ?_
  refine Jf E Y (fun b2 => ?_) (fun b2 => ?_)
  ·refine Qh ?_
   refine QD 3 E Y ?_
   clear E a; intro a E
   obtain ⟨a7, b3⟩ : ∃ x, (l0)[k]? = some x := ⟨_, List.getElem?_eq_getElem (by omega)⟩
   obtain ⟨c2, b4, b5⟩ := h0.at b3
   refine QZ E Y Y QE b4 Y fun _ B => Qb B Y Tryz.isAgg3 S.imm b5 ?_
   clear E a B; intro a E
   refine Qk (QV (ys := [a7]) E S Y QE Y Y Y ?_)
   clear E a S; rintro a w c3 E S
   replace S := S.front2.front1
   refine Qk (JF (xs := VG (l0.take k) (Qw l1)) (ys := [a7]) E S Y Y Y QE (by (unfold VG; simp at wl ⊢; omega)) ?_)
   clear E a S; rintro a w c4 E S
   refine Qj E Y fun _ B => Wj (Qp (m := ((k + 1 : Nat) : Int)) B Y Y fun _ C => Qn C Y ?_)
   clear E a B C; intro a E
   refine Qz ?_
   replace S := S.re1 (l' := VG (l0.take (k + 1)) (Qw l1)) (by (unfold VG; first | (simp [QT]; done) | (rw [Zb (by assumption)]; simp_all; done) | (rw [Zb (List.getElem?_eq_getElem (show k < l0.length by omega))]; simp_all; done)))
   exact ⟨k + 1, ⟨a6, _, (a2.trans a4), S, E.keep ⟨Y, Y, Y, Y, Y, trivial⟩, by (omega)⟩, by omega⟩
  ·refine Qx ?_
   refine WN (Qp (m := ((k + 1 : Nat) : Int)) E Y Y fun _ B => Qn B Y ?_)
   clear E a B; intro a E
   refine Qz ?_
   replace S := S.front1
   replace S := S.re1 (l' := VG (l0.take (k + 1)) (Qw l1)) (by (unfold VG; first | (simp [QT]; done) | (rw [Zb (by assumption)]; simp_all; done) | (rw [Zb (List.getElem?_eq_getElem (show k < l0.length by omega))]; simp_all; done)))
   exact ⟨k + 1, ⟨a6, _, (a2.trans a4), S, E.keep ⟨Y, Y, Y, Y, Y, trivial⟩, by (omega)⟩, by omega⟩
 ·refine VJ (QD 2 E Y ?_)
  clear E a; intro a E
  refine Jj ?_
  have S0 := S; clear S
  obtain ⟨b6, b7, b8, S⟩ := S0.freezeI (by (have wl := Zs (fun _ i => !decide (i ∈ Qw l1)) (l0.take k) 0; unfold VG; simp at wl ⊢; omega))
  clear S0
  exact Qa E Tryz.results159 Y ⟨_, Y, b6, (a5.trans (a2.trans b7)), (QX.eqL b8 (by (rw [List.take_of_length_le (by omega)]; unfold VG; simp only [Yd]))), S.drop⟩
theorem jv {M : Hp} {v0 v1 : Value} {l0 l1 : List Int} (h0 : Qy M v0 l0) (h1 : Qy M v1 l1)(hb : l0.length ≤ 1000000000000) :
  Pu Tryz.prog (.func (.func 64) #[] #[]) M [v0, v1] (fun r M' => Qy M' r (VG l0 l1)) := by
 refine Qd Tryz.func64 Y Tryz.ntmps64 Y Tryz.call64 ?_
 intro a w M1 H hM1 S E
 replace h0 := h0.le hM1
 replace h1 := h1.le hM1
 have b0 := h0.bound
 have b1 := h1.bound
 refine Qs (Qj E Y fun _ B => QI (QD 2 B Y ?_))
 clear E a B; intro a E
 refine Qk (Qm E S Y Y Y (vO h0 h1 (by (omega))) lerf ?_)
 clear E a S; rintro a a3 w a0 a1 a2 S E
 refine Qj E Y ?_
 clear E a; intro a E
 refine Jj ?_
 exact Qa E Tryz.results64 Y ⟨_, Y, a0, a1, a2, S⟩
theorem lo_Slice {M : Hp} {v0 : Value} {l0 : List Int} (h0 : Qy M v0 l0){x1 x2 : Int} (g1 : -9223372036854775808 ≤ x1 ∧ x1 ≤ 9223372036854775807) (g2 : -9223372036854775808 ≤ x2 ∧ x2 ≤ 9223372036854775807) :
  Pu Tryz.prog (.func (.func 160) #[] #[]) M [v0, .int .i64 x1, .int .i64 x2] (fun r M' => Qy M' r (Va l0 x1 x2)) := by
 refine Qd Tryz.func160 Y Tryz.ntmps160 Y Tryz.call160 ?_
 intro a w M1 H hM1 S E
 replace h0 := h0.le hM1
 have b0 := h0.bound
 refine Qs (Qj E Y fun _ B => Zp (QD 2 B Y fun _ C => Wc C Y Y ?_))
 clear E a B C; intro a E
 refine Qz ?_
 refine Ql E Y (fun b1 => ?_) (fun b1 => ?_)
 ·refine Qs ?_
  refine Qk (QV (ys := []) E S Y QE Y Y Y ?_)
  clear E a S; rintro a w e0 E S
  refine Qj E Y ?_
  clear E a; intro a E
  refine UJ ?_
  have S0 := S; clear S
  obtain ⟨b2, a9, b3, S⟩ := S0.freezeI (by ((simp; done)))
  clear S0
  replace h0 := h0.le a9
  exact Qa E Tryz.results160 Y ⟨_, Y, b2, a9, (QX.eqL b3 (by (clear E S; unfold Va; first | (apply List.eq_nil_of_length_eq_zero; simp; omega) | exact GR (by omega) (by omega)))), S⟩
 ·refine VC (Qn E Y fun _ B => Qt B Y QE h0.len fun _ C => Qj C Y fun _ D => Zp (Qn D Y fun _ F => Jc F Y Y ?_))
  clear E a B C D F; intro a E
  refine Qz ?_
  refine Ql E Y (fun b4 => ?_) (fun b4 => ?_)
  ·refine Qh (Qj E Y fun _ B => Zp (Qn B Y fun _ C => Jc C Y Y ?_))
   clear E a B C; intro a E
   refine Qz ?_
   refine Ql E Y (fun b5 => ?_) (fun b5 => ?_)
   ·refine Qh (Qj E Y fun _ B => QI (QD 3 B Y ?_))
    clear E a B; intro a E
    obtain ⟨b6, b7, a0⟩ := h0.subv 0 0 (by omega) (by omega)
    replace a0 : Qy M1 b6 (((l0).take 0).drop 0) := a0
    refine JX E Y Y Y QE b7 fun _ B => Qj B Y ?_
    clear E a B; intro a E
    refine Jj ?_
    exact Qa E Tryz.results160 Y ⟨_, Y, M1, lerf, (QX.eqL a0 (by (clear E S; unfold Va; first | (apply List.eq_nil_of_length_eq_zero; simp; omega) | exact GR (by omega) (by omega)))), S⟩
   ·refine Qs (QD 2 E Y fun _ B => Ys B Y Y ?_)
    clear E a B; intro a E
    refine Qz ?_
    refine Ql E Y (fun b8 => ?_) (fun b8 => ?_)
    ·refine Qh (QD 2 E Y fun _ B => QI (QD 3 B Y ?_))
     clear E a B; intro a E
     obtain ⟨b9, c0, a1⟩ := h0.subv 0 ((l0).length) (by omega) (by omega)
     replace a1 : Qy M1 b9 (((l0).take ((l0).length)).drop 0) := a1
     refine JX E Y Y Y QE c0 fun _ B => Qj B Y ?_
     clear E a B; intro a E
     refine Jj ?_
     exact Qa E Tryz.results160 Y ⟨_, Y, M1, lerf, (QX.eqL a1 (by (clear E S; unfold Va; first | (apply List.eq_nil_of_length_eq_zero; simp; omega) | exact GR (by omega) (by omega)))), S⟩
    ·refine VC (QD 3 E Y ?_)
     clear E a; intro a E
     obtain ⟨c1, c2, a2⟩ := h0.subv 0 ((x2).toNat) (by omega) (by omega)
     replace a2 : Qy M1 c1 (((l0).take ((x2).toNat)).drop 0) := a2
     refine JX E Y Y Y QE c2 fun _ B => Qj B Y ?_
     clear E a B; intro a E
     refine Jj ?_
     exact Qa E Tryz.results160 Y ⟨_, Y, M1, lerf, (QX.eqL a2 (by (clear E S; unfold Va; first | (apply List.eq_nil_of_length_eq_zero; simp; omega) | exact GR (by omega) (by omega)))), S⟩
  ·refine Qs (QD 2 E Y fun _ B => Ys B Y Y ?_)
   clear E a B; intro a E
   refine Qz ?_
   refine Ql E Y (fun c3 => ?_) (fun c3 => ?_)
   ·refine Qh (QD 2 E Y fun _ B => Zp (Qn B Y fun _ C => Jc C Y Y ?_))
    clear E a B C; intro a E
    refine Qz ?_
    refine Ql E Y (fun c4 => ?_) (fun c4 => ?_)
    ·refine Qh (Qj E Y fun _ B => QI (QD 3 B Y ?_))
     clear E a B; intro a E
     obtain ⟨c5, c6, a3⟩ := h0.subv ((l0).length) 0 (by omega) (by omega)
     replace a3 : Qy M1 c5 (((l0).take 0).drop ((l0).length)) := a3
     refine JX E Y Y Y QE c6 fun _ B => Qj B Y ?_
     clear E a B; intro a E
     refine Jj ?_
     exact Qa E Tryz.results160 Y ⟨_, Y, M1, lerf, (QX.eqL a3 (by (clear E S; unfold Va; first | (apply List.eq_nil_of_length_eq_zero; simp; omega) | exact GR (by omega) (by omega)))), S⟩
    ·refine Qs (QD 2 E Y fun _ B => Ys B Y Y ?_)
     clear E a B; intro a E
     refine Qz ?_
     refine Ql E Y (fun c7 => ?_) (fun c7 => ?_)
     ·refine Qh (QD 2 E Y fun _ B => QI (QD 3 B Y ?_))
      clear E a B; intro a E
      obtain ⟨c8, c9, a4⟩ := h0.subv ((l0).length) ((l0).length) (by omega) (by omega)
      replace a4 : Qy M1 c8 (((l0).take ((l0).length)).drop ((l0).length)) := a4
      refine JX E Y Y Y QE c9 fun _ B => Qj B Y ?_
      clear E a B; intro a E
      refine Jj ?_
      exact Qa E Tryz.results160 Y ⟨_, Y, M1, lerf, (QX.eqL a4 (by (clear E S; unfold Va; first | (apply List.eq_nil_of_length_eq_zero; simp; omega) | exact GR (by omega) (by omega)))), S⟩
     ·refine VC (QD 3 E Y ?_)
      clear E a; intro a E
      obtain ⟨d0, d1, a5⟩ := h0.subv ((l0).length) ((x2).toNat) (by omega) (by omega)
      replace a5 : Qy M1 d0 (((l0).take ((x2).toNat)).drop ((l0).length)) := a5
      refine JX E Y Y Y QE d1 fun _ B => Qj B Y ?_
      clear E a B; intro a E
      refine Jj ?_
      exact Qa E Tryz.results160 Y ⟨_, Y, M1, lerf, (QX.eqL a5 (by (clear E S; unfold Va; first | (apply List.eq_nil_of_length_eq_zero; simp; omega) | exact GR (by omega) (by omega)))), S⟩
   ·refine je (Qn E Y fun _ B => Jc B Y Y ?_)
    clear E a B; intro a E
    refine Qz ?_
    refine Ql E Y (fun d2 => ?_) (fun d2 => ?_)
    ·refine Qh (Qj E Y fun _ B => QI (QD 3 B Y ?_))
     clear E a B; intro a E
     obtain ⟨d3, d4, a6⟩ := h0.subv ((x1).toNat) 0 (by omega) (by omega)
     replace a6 : Qy M1 d3 (((l0).take 0).drop ((x1).toNat)) := a6
     refine JX E Y Y Y QE d4 fun _ B => Qj B Y ?_
     clear E a B; intro a E
     refine Jj ?_
     exact Qa E Tryz.results160 Y ⟨_, Y, M1, lerf, (QX.eqL a6 (by (clear E S; unfold Va; first | (apply List.eq_nil_of_length_eq_zero; simp; omega) | exact GR (by omega) (by omega)))), S⟩
    ·refine Qs (QD 2 E Y fun _ B => Ys B Y Y ?_)
     clear E a B; intro a E
     refine Qz ?_
     refine Ql E Y (fun d5 => ?_) (fun d5 => ?_)
     ·refine Qh (QD 2 E Y fun _ B => QI (QD 3 B Y ?_))
      clear E a B; intro a E
      obtain ⟨d6, d7, a7⟩ := h0.subv ((x1).toNat) ((l0).length) (by omega) (by omega)
      replace a7 : Qy M1 d6 (((l0).take ((l0).length)).drop ((x1).toNat)) := a7
      refine JX E Y Y Y QE d7 fun _ B => Qj B Y ?_
      clear E a B; intro a E
      refine Jj ?_
      exact Qa E Tryz.results160 Y ⟨_, Y, M1, lerf, (QX.eqL a7 (by (clear E S; unfold Va; first | (apply List.eq_nil_of_length_eq_zero; simp; omega) | exact GR (by omega) (by omega)))), S⟩
     ·refine VC (QD 3 E Y ?_)
      clear E a; intro a E
      obtain ⟨d8, d9, a8⟩ := h0.subv ((x1).toNat) ((x2).toNat) (by omega) (by omega)
      replace a8 : Qy M1 d8 (((l0).take ((x2).toNat)).drop ((x1).toNat)) := a8
      refine JX E Y Y Y QE d9 fun _ B => Qj B Y ?_
      clear E a B; intro a E
      refine Jj ?_
      exact Qa E Tryz.results160 Y ⟨_, Y, M1, lerf, (QX.eqL a8 (by (clear E S; unfold Va; first | (apply List.eq_nil_of_length_eq_zero; simp; omega) | exact GR (by omega) (by omega)))), S⟩
theorem impl_Slice {M : Hp} {v0 : Value} {l0 : List Int} (h0 : Qy M v0 l0)(hb : l0.length ≤ 1000000000000){x1 x2 : Int} (g1 : -9223372036854775808 ≤ x1 ∧ x1 ≤ 9223372036854775807) (g2 : -9223372036854775808 ≤ x2 ∧ x2 ≤ 9223372036854775807) :
  Pu Tryz.prog (.func (.func 65) #[] #[]) M [v0, .int .i64 x1, .int .i64 x2] (fun r M' => Qy M' r (Va l0 x1 x2)) := by
 refine Qd Tryz.func65 Y Tryz.ntmps65 Y Tryz.call65 ?_
 intro a w M1 H hM1 S E
 replace h0 := h0.le hM1
 have b0 := h0.bound
 have hsl := sliceL_len l0 x1 x2
 refine Qs (Qj E Y fun _ B => QI (QD 3 B Y ?_))
 clear E a B; intro a E
 refine Qk (Qm E S Y Y Y (lo_Slice h0 (by omega) (by omega)) lerf ?_)
 clear E a S; rintro a a8 w a9 a0 a1 S E
 refine Qk (VF (p := []) E S Y Y Y (Yz a1 (by (first | omega | (simp; omega) | (simp; done) | (simp_all; omega) | grind))) lerf ?_)
 clear E a S; rintro a a2 w a3 _ a4 rfl S E
 replace S : St w a3 (Jg 3 a2 (Va l0 x1 x2) :: _) := S
 refine Qj E Y ?_
 clear E a; intro a E
 refine Jj ?_
 have S0 := S; clear S
 obtain ⟨a5, a6, a7, S⟩ := S0.freezeI (by (omega))
 clear S0
 exact Qa E Tryz.results65 Y ⟨_, Y, a5, (a0.trans (a4.trans a6)), a7, S⟩
theorem lo_Subset {M : Hp} {v0 : Value} {l0 : List Int} (h0 : Qy M v0 l0){x1 x2 : Int} (g1 : -1000000 ≤ x1 ∧ x1 ≤ 1000000) (g2 : 0 ≤ x2 ∧ x2 ≤ 18446744073709551615) (hb : l0.length ≤ 1000000000000) :
  Pu Tryz.prog (.func (.func 161) #[] #[]) M [v0, .int .i64 x1, .int .u64 x2] (fun r M' => Qy M' r (Yv l0 x1 x2)) := by
 refine Qd Tryz.func161 Y Tryz.ntmps161 Y Tryz.call161 ?_
 intro a w M1 H hM1 S E
 replace h0 := h0.le hM1
 have b0 := h0.bound
 refine Qs (Qj E Y fun _ B => QI (Qn B Y fun _ C => Qt C Y QE h0.len fun _ D => Qj D Y fun _ F => Zp (Qn F Y fun _ G => Jc G Y Y ?_)))
 clear E a B C D F G; intro a E
 refine Qz ?_
 refine Ql E Y (fun a9 => ?_) (fun a9 => ?_)
 ·refine Qs (QD 2 E Y fun _ B => Qp (m := (((l0).length : Nat) : Int) + x1) B Y Y fun _ C => Qj C Y fun _ D => QI (Qn D Y fun _ F => Jc F Y Y ?_))
  clear E a B C D F; intro a E
  refine Qz ?_
  refine Ql E Y (fun b1 => ?_) (fun b1 => ?_)
  ·refine Qh (Qj E Y fun _ B => Zp (QD 2 B Y fun _ C => Ys C Y Y ?_))
   clear E a B C; intro a E
   refine Qz ?_
   refine Ql E Y (fun b2 => ?_) (fun b2 => ?_)
   ·refine Qs ?_
    refine Qk (QV (ys := []) E S Y QE Y Y Y ?_)
    clear E a S; rintro a w d6 E S
    refine Qj E Y ?_
    clear E a; intro a E
    refine UJ ?_
    have S0 := S; clear S
    obtain ⟨b3, a6, b4, S⟩ := S0.freezeI (by (omega))
    clear S0
    replace h0 := h0.le a6
    exact Qa E Tryz.results161 Y ⟨_, Y, b3, a6, (QX.eqL b4 (by (clear E S; unfold Yv; first | (exfalso; omega) | (rw [List.drop_eq_nil_of_le (by split <;> omega)]; simp; done) | (apply Wp (e := 0) <;> first | omega | (split <;> omega))))), S⟩
   ·refine je (QD 2 E Y fun _ B => VV (m := (((l0).length : Nat) : Int)) B Y Tryz.underlying3 Tryz.underlying54 (by (rw [Yn]; omega)) fun _ C => Qn C Y fun _ D => VV (m := 0) D Y Tryz.underlying3 Tryz.underlying54 (by (rw [Yn]; omega)) fun _ F => e_subm (m := (((l0).length : Nat) : Int) - 0) F Y Y (by (rw [Yn]; omega)) fun _ G => Ys G Y Y ?_)
    clear E a B C D F G; intro a E
    refine Qz ?_
    refine Ql E Y (fun b5 => ?_) (fun b5 => ?_)
    ·refine Qh (QD 2 E Y fun _ B => JT (m := (((l0).length - 0 : Nat) : Int)) B Y Y fun _ C => VV (m := (((l0).length - 0 : Nat) : Int)) C Y Tryz.underlying3 Tryz.underlying54 (by (rw [Yn]; omega)) fun _ D => Qj D Y fun _ F => QI (QD 4 F Y fun _ G => GC G Y Tryz.underlying54 Tryz.underlying3 fun _ I => Qp (m := ((0 + (l0).length - 0 : Nat) : Int)) I Y Y ?_))
     clear E a B C D F G I; intro a E
     obtain ⟨b6, b7, a0⟩ := h0.subv 0 (0 + (l0).length - 0) (by omega) (by omega)
     replace a0 : Qy M1 b6 (((l0).take (0 + (l0).length - 0)).drop 0) := a0
     refine JX E Y Y Y QE b7 fun _ B => Qj B Y ?_
     clear E a B; intro a E
     refine Jj ?_
     exact Qa E Tryz.results161 Y ⟨_, Y, M1, lerf, (QX.eqL a0 (by (clear E S; unfold Yv; first | (exfalso; omega) | (rw [List.drop_eq_nil_of_le (by split <;> omega)]; simp; done) | (apply Wp (e := 0) <;> first | omega | (split <;> omega))))), S⟩
    ·refine VC (QD 4 E Y fun _ B => GC B Y Tryz.underlying54 Tryz.underlying3 fun _ C => Qp (m := 0 + x2) C Y Y ?_)
     clear E a B C; intro a E
     obtain ⟨b8, b9, a1⟩ := h0.subv 0 ((0 + x2).toNat) (by omega) (by omega)
     replace a1 : Qy M1 b8 (((l0).take ((0 + x2).toNat)).drop 0) := a1
     refine JX E Y Y Y QE b9 fun _ B => Qj B Y ?_
     clear E a B; intro a E
     refine Jj ?_
     exact Qa E Tryz.results161 Y ⟨_, Y, M1, lerf, (QX.eqL a1 (by (clear E S; unfold Yv; first | (exfalso; omega) | (rw [List.drop_eq_nil_of_le (by split <;> omega)]; simp; done) | (apply Wp (e := 0) <;> first | omega | (split <;> omega))))), S⟩
  ·refine je (QD 2 E Y fun _ B => Ys B Y Y ?_)
   clear E a B; intro a E
   refine Qz ?_
   refine Ql E Y (fun c0 => ?_) (fun c0 => ?_)
   ·refine Qs ?_
    refine Qk (QV (ys := []) E S Y QE Y Y Y ?_)
    clear E a S; rintro a w d7 E S
    refine Qj E Y ?_
    clear E a; intro a E
    refine UJ ?_
    have S0 := S; clear S
    obtain ⟨c1, a7, c2, S⟩ := S0.freezeI (by (omega))
    clear S0
    replace h0 := h0.le a7
    exact Qa E Tryz.results161 Y ⟨_, Y, c1, a7, (QX.eqL c2 (by (clear E S; unfold Yv; first | (exfalso; omega) | (rw [List.drop_eq_nil_of_le (by split <;> omega)]; simp; done) | (apply Wp (e := 0) <;> first | omega | (split <;> omega))))), S⟩
   ·refine je (QD 2 E Y fun _ B => VV (m := (((l0).length : Nat) : Int)) B Y Tryz.underlying3 Tryz.underlying54 (by (rw [Yn]; omega)) fun _ C => Qn C Y fun _ D => VV (m := (((l0).length : Nat) : Int) + x1) D Y Tryz.underlying3 Tryz.underlying54 (by (rw [Yn]; omega)) fun _ F => e_subm (m := (((l0).length : Nat) : Int) - ((((l0).length : Nat) : Int) + x1)) F Y Y (by (rw [Yn]; omega)) fun _ G => Ys G Y Y ?_)
    clear E a B C D F G; intro a E
    refine Qz ?_
    refine Ql E Y (fun c3 => ?_) (fun c3 => ?_)
    ·refine Qh (QD 2 E Y fun _ B => JT (m := (((l0).length : Nat) : Int) - ((((l0).length : Nat) : Int) + x1)) B Y Y fun _ C => VV (m := (((l0).length : Nat) : Int) - ((((l0).length : Nat) : Int) + x1)) C Y Tryz.underlying3 Tryz.underlying54 (by (rw [Yn]; omega)) fun _ D => Qj D Y fun _ F => QI (QD 4 F Y fun _ G => GC G Y Tryz.underlying54 Tryz.underlying3 fun _ I => Qp (m := ((((l0).length : Nat) : Int) + x1) + ((((l0).length : Nat) : Int) - ((((l0).length : Nat) : Int) + x1))) I Y Y ?_))
     clear E a B C D F G I; intro a E
     obtain ⟨c4, c5, a2⟩ := h0.subv (((((l0).length : Nat) : Int) + x1).toNat) ((((((l0).length : Nat) : Int) + x1) + ((((l0).length : Nat) : Int) - ((((l0).length : Nat) : Int) + x1))).toNat) (by omega) (by omega)
     replace a2 : Qy M1 c4 (((l0).take ((((((l0).length : Nat) : Int) + x1) + ((((l0).length : Nat) : Int) - ((((l0).length : Nat) : Int) + x1))).toNat)).drop (((((l0).length : Nat) : Int) + x1).toNat)) := a2
     refine JX E Y Y Y QE c5 fun _ B => Qj B Y ?_
     clear E a B; intro a E
     refine Jj ?_
     exact Qa E Tryz.results161 Y ⟨_, Y, M1, lerf, (QX.eqL a2 (by (clear E S; unfold Yv; first | (exfalso; omega) | (rw [List.drop_eq_nil_of_le (by split <;> omega)]; simp; done) | (apply Wp (e := 0) <;> first | omega | (split <;> omega))))), S⟩
    ·refine VC (QD 4 E Y fun _ B => GC B Y Tryz.underlying54 Tryz.underlying3 fun _ C => Qp (m := ((((l0).length : Nat) : Int) + x1) + x2) C Y Y ?_)
     clear E a B C; intro a E
     obtain ⟨c6, c7, a3⟩ := h0.subv (((((l0).length : Nat) : Int) + x1).toNat) ((((((l0).length : Nat) : Int) + x1) + x2).toNat) (by omega) (by omega)
     replace a3 : Qy M1 c6 (((l0).take ((((((l0).length : Nat) : Int) + x1) + x2).toNat)).drop (((((l0).length : Nat) : Int) + x1).toNat)) := a3
     refine JX E Y Y Y QE c7 fun _ B => Qj B Y ?_
     clear E a B; intro a E
     refine Jj ?_
     exact Qa E Tryz.results161 Y ⟨_, Y, M1, lerf, (QX.eqL a3 (by (clear E S; unfold Yv; first | (exfalso; omega) | (rw [List.drop_eq_nil_of_le (by split <;> omega)]; simp; done) | (apply Wp (e := 0) <;> first | omega | (split <;> omega))))), S⟩
 ·refine je (QD 2 E Y fun _ B => Ys B Y Y ?_)
  clear E a B; intro a E
  refine Qz ?_
  refine Ql E Y (fun c8 => ?_) (fun c8 => ?_)
  ·refine Qs ?_
   refine Qk (QV (ys := []) E S Y QE Y Y Y ?_)
   clear E a S; rintro a w d8 E S
   refine Qj E Y ?_
   clear E a; intro a E
   refine UJ ?_
   have S0 := S; clear S
   obtain ⟨c9, a8, d0, S⟩ := S0.freezeI (by ((simp; done)))
   clear S0
   replace h0 := h0.le a8
   exact Qa E Tryz.results161 Y ⟨_, Y, c9, a8, (QX.eqL d0 (by (clear E S; unfold Yv; first | (exfalso; omega) | (rw [List.drop_eq_nil_of_le (by split <;> omega)]; simp; done) | (apply Wp (e := 0) <;> first | omega | (split <;> omega))))), S⟩
  ·refine je (QD 2 E Y fun _ B => VV (m := (((l0).length : Nat) : Int)) B Y Tryz.underlying3 Tryz.underlying54 (by (rw [Yn]; omega)) fun _ C => Qn C Y fun _ D => VV (m := x1) D Y Tryz.underlying3 Tryz.underlying54 (by (rw [Yn]; omega)) fun _ F => e_subm (m := (((l0).length : Nat) : Int) - x1) F Y Y (by (rw [Yn]; omega)) fun _ G => Ys G Y Y ?_)
   clear E a B C D F G; intro a E
   refine Qz ?_
   refine Ql E Y (fun d1 => ?_) (fun d1 => ?_)
   ·refine Qh (QD 2 E Y fun _ B => JT (m := (((l0).length : Nat) : Int) - x1) B Y Y fun _ C => VV (m := (((l0).length : Nat) : Int) - x1) C Y Tryz.underlying3 Tryz.underlying54 (by (rw [Yn]; omega)) fun _ D => Qj D Y fun _ F => QI (QD 4 F Y fun _ G => GC G Y Tryz.underlying54 Tryz.underlying3 fun _ I => Qp (m := x1 + ((((l0).length : Nat) : Int) - x1)) I Y Y ?_))
    clear E a B C D F G I; intro a E
    obtain ⟨d2, d3, a4⟩ := h0.subv ((x1).toNat) ((x1 + ((((l0).length : Nat) : Int) - x1)).toNat) (by omega) (by omega)
    replace a4 : Qy M1 d2 (((l0).take ((x1 + ((((l0).length : Nat) : Int) - x1)).toNat)).drop ((x1).toNat)) := a4
    refine JX E Y Y Y QE d3 fun _ B => Qj B Y ?_
    clear E a B; intro a E
    refine Jj ?_
    exact Qa E Tryz.results161 Y ⟨_, Y, M1, lerf, (QX.eqL a4 (by (clear E S; unfold Yv; first | (exfalso; omega) | (rw [List.drop_eq_nil_of_le (by split <;> omega)]; simp; done) | (apply Wp (e := 0) <;> first | omega | (split <;> omega))))), S⟩
   ·refine VC (QD 4 E Y fun _ B => GC B Y Tryz.underlying54 Tryz.underlying3 fun _ C => Qp (m := x1 + x2) C Y Y ?_)
    clear E a B C; intro a E
    obtain ⟨d4, d5, a5⟩ := h0.subv ((x1).toNat) ((x1 + x2).toNat) (by omega) (by omega)
    replace a5 : Qy M1 d4 (((l0).take ((x1 + x2).toNat)).drop ((x1).toNat)) := a5
    refine JX E Y Y Y QE d5 fun _ B => Qj B Y ?_
    clear E a B; intro a E
    refine Jj ?_
    exact Qa E Tryz.results161 Y ⟨_, Y, M1, lerf, (QX.eqL a5 (by (clear E S; unfold Yv; first | (exfalso; omega) | (rw [List.drop_eq_nil_of_le (by split <;> omega)]; simp; done) | (apply Wp (e := 0) <;> first | omega | (split <;> omega))))), S⟩
theorem impl_Subset {M : Hp} {v0 : Value} {l0 : List Int} (h0 : Qy M v0 l0){x1 x2 : Int} (g1 : -1000000 ≤ x1 ∧ x1 ≤ 1000000) (g2 : 0 ≤ x2 ∧ x2 ≤ 18446744073709551615) (hb : l0.length ≤ 1000000000000) :
  Pu Tryz.prog (.func (.func 66) #[] #[]) M [v0, .int .i64 x1, .int .u64 x2] (fun r M' => Qy M' r (Yv l0 x1 x2)) := by
 refine Qd Tryz.func66 Y Tryz.ntmps66 Y Tryz.call66 ?_
 intro a w M1 H hM1 S E
 replace h0 := h0.le hM1
 have b0 := h0.bound
 have hsl := subsetL_len l0 x1 x2
 refine Qs (Qj E Y fun _ B => QI (QD 3 B Y ?_))
 clear E a B; intro a E
 refine Qk (Qm E S Y Y Y (lo_Subset h0 (by omega) (by omega) (by (omega))) lerf ?_)
 clear E a S; rintro a a8 w a9 a0 a1 S E
 refine Qk (VF (p := []) E S Y Y Y (Yz a1 (by (first | omega | (simp; omega) | (simp; done) | (simp_all; omega) | grind))) lerf ?_)
 clear E a S; rintro a a2 w a3 _ a4 rfl S E
 replace S : St w a3 (Jg 3 a2 (Yv l0 x1 x2) :: _) := S
 refine Qj E Y ?_
 clear E a; intro a E
 refine Jj ?_
 have S0 := S; clear S
 obtain ⟨a5, a6, a7, S⟩ := S0.freezeI (by (omega))
 clear S0
 exact Qa E Tryz.results66 Y ⟨_, Y, a5, (a0.trans (a4.trans a6)), a7, S⟩
theorem yH {M : Hp} {v0 : Value} {l0 : List Int} (h0 : Qy M v0 l0){x1 x2 x3 : Int}  (hb : l0.length ≤ 1000000000000) :
  Pu Tryz.prog (.func (.func 162) #[] #[]) M [v0, .int .i64 x1, .int .i64 x2, .int .i64 x3] (fun r M' => Qy M' r (Zn (ZD x1 x2) (Zi x1) x3 l0)) := by
 refine Qd Tryz.func162 Y Tryz.ntmps162 Y Tryz.call162 ?_
 intro a w M1 H hM1 S E
 replace h0 := h0.le hM1
 have b0 := h0.bound
 refine Qs (Qj E Y fun _ B => QI (Qn B Y fun _ C => Qt C Y QE h0.len ?_))
 clear E a B C; intro a E
 refine Qk (YM (k := (l0).length) E S Y Y Y QE (by omega) (by omega) (by omega) (by omega) ?_)
 clear E a S; rintro a w a4 E S
 replace S := S.madeI
 refine Qj E Y fun _ B => QI (QD 2 B Y ?_)
 clear E a B; intro a E
 refine Qk (VY (xs := (List.replicate ((l0).length) (0 : Int))) (ys := l0) E S Y Y Y QE h0 ?_)
 clear E a S; rintro a w E S
 replace S := S.re1 (l' := l0) (by (simp))
 refine Zp (Qn E Y fun _ B => Qt B Y QE S.lenC fun _ C => Qn C Y ?_)
 clear E a B C; intro a E
 refine ZH ?_
 replace S := S.re1 (l' := Zn (ZD x1 x2) (Zi x1) x3 (l0.take 0) ++ l0.drop 0) (by first | rfl | (simp [Zn, YF]; done) | exact rp_yes (by omega) (by assumption) (by assumption) (by assumption) | exact rp_no (by omega) (by assumption) (by first | (left; first | assumption | omega) | (right; first | assumption | omega)) | exact rf_yes (by assumption) (by assumption) (by assumption) | exact rf_no (by assumption) (by first | (left; first | assumption | omega) | (right; first | assumption | omega)))
 refine QN (γ := Nat) (fun (k : Nat) a w => ∃ (a1 : Hp), Hp.le M1 a1 ∧ St w a1 (Jg 3 a4 (Zn (ZD x1 x2) (Zi x1) x3 (l0.take k) ++ l0.drop k) :: H) ∧ Env a 40 [] [(1, .int .i64 x1), (2, .int .i64 x2), (3, .int .i64 (YF (Zi x1) x3 (l0.take k))), (9, a4), (18, .int .i64 (((l0).length : Nat) : Int)), (19, .int .i64 ((k : Nat) : Int))] ∧ (k ≤ (l0).length)) (fun k => ((l0).length) - k) 0 ⟨M1, lerf, S, E.keep ⟨Y, Y, Ye (i := x3) Y (by (simp [YF])), Y, Y, Y, trivial⟩, by ((try clear S); (try clear E); first | assumption | omega | rfl | (simp; done) | (simp_all; done) | (simp [List.take_add_one, *]; done) | grind [List.take_add_one])⟩ ?_
 try clear E
 try clear S
 try clear a
 try clear w
 rintro k a w ⟨a1, a2, S, E, b3⟩
 have hms := YE (ZD x1 x2) (Zi x1) (l0.take k) x3; simp only [List.length_take] at hms
 refine Qs (Jc E Y Y ?_)
 clear E a; intro a E
 refine ZJ ?_
 refine Ql E Y (fun a5 => ?_) (fun a5 => ?_)
 ·refine YZ (QD 2 E Y fun _ B => QI (QD 2 B Y ?_))
  clear E a B; intro a E
  obtain ⟨b4, a3⟩ := S.ptrC (k := k) (by first | omega | (simp; done) | (simp; omega) | (simp [YE]; omega))
  refine QZ E Y Y QE a3 Y ?_
  clear E a; intro a E
  obtain ⟨a6, a7⟩ : ∃ x, (Zn (ZD x1 x2) (Zi x1) x3 (l0.take k) ++ l0.drop k)[k]? = some x := ⟨_, List.getElem?_eq_getElem (by first | omega | (simp; done) | (simp; omega) | (simp [YE]; omega))⟩
  refine QH E Y (Tryz.isAgg3 _) (S.cellI a3 a7) fun _ B => Qn B Y fun _ C => QK C Y Y fun _ D => Qn D Y ?_
  clear E a B C D; intro a E
  refine Jo (decide (a6 = x1)) (fun a0 => ?_) (fun a0 => ?_)
  ·replace E := E.val (t := 27) Y a0
   replace E := E.val (t := 28) Y a0
   replace a0 := of_decide_eq_true a0
   refine Qc E Y Y (Qn E Y fun _ B => Qc B Y Y (Wb B Y Y fun _ C => JA C Y Y ?_))
   clear E a B C; intro a E
   refine Qz ?_
   refine Ql E Y (fun a8 => ?_) (fun a8 => ?_)
   ·refine Qs (QD 3 E Y fun _ B => QZ B Y Y QE a3 Y ?_)
    clear E a B; intro a E
    refine Jm (YH E S Y Y (Tryz.sizeOf3 _) a3 ?_)
    clear E a S; rintro a w E S
    refine zw (Qn E Y fun _ B => e_sub B Y Y fun _ C => Qj C Y fun _ D => Wj (Qp (m := ((k + 1 : Nat) : Int)) D Y Y fun _ F => Qn F Y ?_))
    clear E a B C D F; intro a E
    refine Qz ?_
    replace S := S.re1 (l' := Zn (ZD x1 x2) (Zi x1) x3 (l0.take (k + 1)) ++ l0.drop (k + 1)) (by first | rfl | (simp [Zn, YF]; done) | exact rp_yes (by omega) (by assumption) (by assumption) (by assumption) | exact rp_no (by omega) (by assumption) (by first | (left; first | assumption | omega) | (right; first | assumption | omega)) | exact rf_yes (by assumption) (by assumption) (by assumption) | exact rf_no (by assumption) (by first | (left; first | assumption | omega) | (right; first | assumption | omega)))
    exact ⟨k + 1, ⟨a1, a2, S, E.keep ⟨Y, Y, Ye (i := IntKind.i64.wrap (YF (Zi x1) x3 (l0.take k) - 1)) Y (by (first | rfl | (simp [YF]; done) | exact zE (by assumption) (by assumption) (by assumption) | exact rg_no (by assumption) (by first | (left; first | assumption | omega) | (right; first | assumption | omega)) | exact zE (WU (by omega) (by assumption)) (by assumption) (by assumption) | exact rg_no (WU (by omega) (by assumption)) (by first | (left; first | assumption | omega) | (right; first | assumption | omega)))), Y, Y, Y, trivial⟩, by ((try clear S); (try clear E); first | assumption | omega | rfl | (simp; done) | (simp_all; done) | (simp [List.take_add_one, *]; done) | grind [List.take_add_one])⟩, by omega⟩
   ·refine zu (Qp (m := ((k + 1 : Nat) : Int)) E Y Y fun _ B => Qn B Y ?_)
    clear E a B; intro a E
    refine Qz ?_
    replace S := S.re1 (l' := Zn (ZD x1 x2) (Zi x1) x3 (l0.take (k + 1)) ++ l0.drop (k + 1)) (by first | rfl | (simp [Zn, YF]; done) | exact rp_yes (by omega) (by assumption) (by assumption) (by assumption) | exact rp_no (by omega) (by assumption) (by first | (left; first | assumption | omega) | (right; first | assumption | omega)) | exact rf_yes (by assumption) (by assumption) (by assumption) | exact rf_no (by assumption) (by first | (left; first | assumption | omega) | (right; first | assumption | omega)))
    exact ⟨k + 1, ⟨a1, a2, S, E.keep ⟨Y, Y, Ye (i := YF (Zi x1) x3 (l0.take k)) Y (by (first | rfl | (simp [YF]; done) | exact zE (by assumption) (by assumption) (by assumption) | exact rg_no (by assumption) (by first | (left; first | assumption | omega) | (right; first | assumption | omega)) | exact zE (WU (by omega) (by assumption)) (by assumption) (by assumption) | exact rg_no (WU (by omega) (by assumption)) (by first | (left; first | assumption | omega) | (right; first | assumption | omega)))), Y, Y, Y, trivial⟩, by ((try clear S); (try clear E); first | assumption | omega | rfl | (simp; done) | (simp_all; done) | (simp [List.take_add_one, *]; done) | grind [List.take_add_one])⟩, by omega⟩
  ·replace E := E.val (t := 27) Y a0
   replace E := E.val (t := 28) Y a0
   replace a0 := of_decide_eq_false a0
   refine Qe E Y Y Y Y fun _ B => Qe B Y Y Y Y fun _ C => JB C Y Y ?_
   clear E a B C; intro a E
   refine Qz ?_
   refine QF E Y Y ?_
   refine zu (Qp (m := ((k + 1 : Nat) : Int)) E Y Y fun _ B => Qn B Y ?_)
   clear E a B; intro a E
   refine Qz ?_
   replace S := S.re1 (l' := Zn (ZD x1 x2) (Zi x1) x3 (l0.take (k + 1)) ++ l0.drop (k + 1)) (by first | rfl | (simp [Zn, YF]; done) | exact rp_yes (by omega) (by assumption) (by assumption) (by assumption) | exact rp_no (by omega) (by assumption) (by first | (left; first | assumption | omega) | (right; first | assumption | omega)) | exact rf_yes (by assumption) (by assumption) (by assumption) | exact rf_no (by assumption) (by first | (left; first | assumption | omega) | (right; first | assumption | omega)))
   exact ⟨k + 1, ⟨a1, a2, S, E.keep ⟨Y, Y, Ye (i := YF (Zi x1) x3 (l0.take k)) Y (by (first | rfl | (simp [YF]; done) | exact zE (by assumption) (by assumption) (by assumption) | exact rg_no (by assumption) (by first | (left; first | assumption | omega) | (right; first | assumption | omega)) | exact zE (WU (by omega) (by assumption)) (by assumption) (by assumption) | exact rg_no (WU (by omega) (by assumption)) (by first | (left; first | assumption | omega) | (right; first | assumption | omega)))), Y, Y, Y, trivial⟩, by ((try clear S); (try clear E); first | assumption | omega | rfl | (simp; done) | (simp_all; done) | (simp [List.take_add_one, *]; done) | grind [List.take_add_one])⟩, by omega⟩
 ·refine VJ (QD 2 E Y ?_)
  clear E a; intro a E
  refine Jj ?_
  have S0 := S; clear S
  obtain ⟨a9, b1, b2, S⟩ := S0.freezeI (by (first | omega | (simp [YE]; omega)))
  clear S0
  exact Qa E Tryz.results162 Y ⟨_, Y, a9, (a2.trans b1), (QX.eqL b2 (by (rw [List.drop_eq_nil_of_le (by omega), List.take_of_length_le (by omega), List.append_nil]))), S⟩
theorem impl_Replace {M : Hp} {v0 : Value} {l0 : List Int} (h0 : Qy M v0 l0){x1 x2 x3 : Int}  (hb : l0.length ≤ 1000000000000) :
  Pu Tryz.prog (.func (.func 67) #[] #[]) M [v0, .int .i64 x1, .int .i64 x2, .int .i64 x3] (fun r M' => Qy M' r (Zn (ZD x1 x2) (Zi x1) x3 l0)) := by
 refine Qd Tryz.func67 Y Tryz.ntmps67 Y Tryz.call67 ?_
 intro a w M1 H hM1 S E
 replace h0 := h0.le hM1
 have b0 := h0.bound
 have hms0 := YE (ZD x1 x2) (Zi x1) l0 x3
 refine Qs (Qj E Y fun _ B => QI (QD 4 B Y ?_))
 clear E a B; intro a E
 refine Qk (Qm E S Y Y Y (yH h0 (by (omega))) lerf ?_)
 clear E a S; rintro a a3 w a0 a1 a2 S E
 refine Qj E Y ?_
 clear E a; intro a E
 refine Jj ?_
 exact Qa E Tryz.results67 Y ⟨_, Y, a0, a1, a2, S⟩
theorem vT {M : Hp} {v0 : Value} {l0 : List Int} (h0 : Qy M v0 l0){x1 x2 : Int}  (hb : l0.length ≤ 1000000000000) :
  Pu Tryz.prog (.func (.func 163) #[] #[]) M [v0, .int .i64 x1, .int .i64 x2] (fun r M' => Qy M' r (Zn (ZD x1 x2) (Zi x1) (-1) l0)) := by
 refine Qd Tryz.func163 Y Tryz.ntmps163 Y Tryz.call163 ?_
 intro a w M1 H hM1 S E
 replace h0 := h0.le hM1
 have b0 := h0.bound
 have hms0 := YE (ZD x1 x2) (Zi x1) l0 (-1)
 refine Qs (Qj E Y fun _ B => QI (QD 3 B Y ?_))
 clear E a B; intro a E
 refine Qk (Qm E S Y Y Y (yH h0 (by (omega))) lerf ?_)
 clear E a S; rintro a a3 w a0 a1 a2 S E
 refine Qj E Y ?_
 clear E a; intro a E
 refine Jj ?_
 exact Qa E Tryz.results163 Y ⟨_, Y, a0, a1, a2, S⟩
theorem jF {M : Hp} {v0 : Value} {l0 : List Int} (h0 : Qy M v0 l0){x1 x2 : Int}  (hb : l0.length ≤ 1000000000000) :
  Pu Tryz.prog (.func (.func 68) #[] #[]) M [v0, .int .i64 x1, .int .i64 x2] (fun r M' => Qy M' r (Zn (ZD x1 x2) (Zi x1) (-1) l0)) := by
 refine Qd Tryz.func68 Y Tryz.ntmps68 Y Tryz.call68 ?_
 intro a w M1 H hM1 S E
 replace h0 := h0.le hM1
 have b0 := h0.bound
 have hms0 := YE (ZD x1 x2) (Zi x1) l0 (-1)
 refine Qs (Qj E Y fun _ B => QI (QD 3 B Y ?_))
 clear E a B; intro a E
 refine Qk (Qm E S Y Y Y (vT h0 (by (omega))) lerf ?_)
 clear E a S; rintro a a3 w a0 a1 a2 S E
 refine Qj E Y ?_
 clear E a; intro a E
 refine Jj ?_
 exact Qa E Tryz.results68 Y ⟨_, Y, a0, a1, a2, S⟩
theorem lo_Compact {M : Hp} {v0 : Value} {l0 : List Int} (h0 : Qy M v0 l0) (hb : l0.length ≤ 1000000000000) :
  Pu Tryz.prog (.func (.func 241) #[] #[]) M [v0] (fun r M' => Qy M' r ((l0).filter (fun x => decide (x ≠ 0)))) := by
 refine Qd Tryz.func241 Y Tryz.ntmps241 Y Tryz.call241 ?_
 intro a w M1 H hM1 S E
 replace h0 := h0.le hM1
 have b0 := h0.bound
 refine Qs (Qj E Y fun _ B => QI (Qj B Y fun _ C => QI (Qn C Y fun _ D => Qt D Y QE h0.len ?_)))
 clear E a B C D; intro a E
 refine Qk (JD (k := (l0).length) E S Y Y Y QE Y (by omega) (by omega) (by omega) ?_)
 clear E a S; rintro a w b4 E S
 replace S := S.made0
 refine Qj E Y fun _ B => Zp (Qn B Y fun _ C => Qt C Y QE h0.len fun _ D => Qn D Y ?_)
 clear E a B C D; intro a E
 refine ZH ?_
 replace S := S.re1 (l' := (l0.take 0).filter (fun x => decide (x ≠ 0))) (by ((simp; done)))
 refine QN (γ := Nat) (fun (k : Nat) a w => ∃ (a0 : Hp) (u4 : Value), Hp.le M1 a0 ∧ St w a0 (Jg 3 u4 ((l0.take k).filter (fun x => decide (x ≠ 0))) :: H) ∧ Env a 29 [] [(0, v0), (3, .int .i64 0), (4, u4), (10, .int .i64 (((l0).length : Nat) : Int)), (11, .int .i64 ((k : Nat) : Int))] ∧ (k ≤ (l0).length)) (fun k => ((l0).length) - k) 0 ⟨M1, _, lerf, S, E.keep ⟨Y, Y, Y, Y, Y, trivial⟩, by (omega)⟩ ?_
 try clear E
 try clear S
 try clear a
 try clear w
 rintro k a w ⟨a0, u4, a1, S, E, b5⟩
 replace h0 := h0.le a1
 have wl := List.length_filter_le (fun x => decide (x ≠ 0)) (l0.take k)
 refine Qs (Jc E Y Y ?_)
 clear E a; intro a E
 refine ZJ ?_
 refine Ql E Y (fun a4 => ?_) (fun a4 => ?_)
 ·refine YZ (QD 2 E Y fun _ B => QI (QD 2 B Y ?_))
  clear E a B; intro a E
  obtain ⟨a2, a3⟩ : ∃ x, (l0)[k]? = some x := ⟨_, List.getElem?_eq_getElem (by omega)⟩
  obtain ⟨b6, a5, a6⟩ := h0.at a3
  refine QZ E Y Y QE a5 Y fun _ B => Qb B Y Tryz.isAgg3 S.imm a6 fun _ C => Qn C Y fun _ D => Wb D Y Y ?_
  clear E a B C D; intro a E
  refine Qz ?_
  refine Ql E Y (fun a7 => ?_) (fun a7 => ?_)
  ·refine Qh (QD 3 E Y ?_)
   clear E a; intro a E
   obtain ⟨b7, a8, a9⟩ := h0.at a3
   refine QZ E Y Y QE a8 Y fun _ B => Qb B Y Tryz.isAgg3 S.imm a9 ?_
   clear E a B; intro a E
   refine Qk (QV (ys := [a2]) E S Y QE Y Y Y ?_)
   clear E a S; rintro a w b8 E S
   replace S := S.front1.front1
   refine Qk (JF (xs := (l0.take k).filter (fun x => decide (x ≠ 0))) (ys := [a2]) E S Y Y Y QE (by (simp at wl ⊢; omega)) ?_)
   clear E a S; rintro a w b9 E S
   refine Qj E Y fun _ B => Wj (Qp (m := ((k + 1 : Nat) : Int)) B Y Y fun _ C => Qn C Y ?_)
   clear E a B C; intro a E
   refine Qz ?_
   replace S := S.re1 (l' := (l0.take (k + 1)).filter (fun x => decide (x ≠ 0))) (by ((rw [ZN (by assumption)]; first | (simp [*]; done) | (simp_all; done))))
   exact ⟨k + 1, ⟨a0, _, a1, S, E.keep ⟨Y, Y, Y, Y, Y, trivial⟩, by (omega)⟩, by omega⟩
  ·refine zu (Qp (m := ((k + 1 : Nat) : Int)) E Y Y fun _ B => Qn B Y ?_)
   clear E a B; intro a E
   refine Qz ?_
   replace S := S.re1 (l' := (l0.take (k + 1)).filter (fun x => decide (x ≠ 0))) (by ((rw [ZN (by assumption)]; first | (simp [*]; done) | (simp_all; done))))
   exact ⟨k + 1, ⟨a0, _, a1, S, E.keep ⟨Y, Y, Y, Y, Y, trivial⟩, by (omega)⟩, by omega⟩
 ·refine VJ (QD 2 E Y ?_)
  clear E a; intro a E
  refine Jj ?_
  have S0 := S; clear S
  obtain ⟨b1, b2, b3, S⟩ := S0.freezeI (by (have wl := List.length_filter_le (fun x => decide (x ≠ 0)) (l0.take k); simp at wl ⊢; omega))
  clear S0
  exact Qa E Tryz.results241 Y ⟨_, Y, b1, (a1.trans b2), (QX.eqL b3 (by (rw [List.take_of_length_le (by omega)]))), S⟩
theorem impl_Compact {M : Hp} {v0 : Value} {l0 : List Int} (h0 : Qy M v0 l0)(hb : l0.length ≤ 1000000000000) :
  Pu Tryz.prog (.func (.func 164) #[] #[]) M [v0] (fun r M' => Qy M' r ((l0).filter (fun x => decide (x ≠ 0)))) := by
 refine Qd Tryz.func164 Y Tryz.ntmps164 Y Tryz.call164 ?_
 intro a w M1 H hM1 S E
 replace h0 := h0.le hM1
 have b0 := h0.bound
 refine Qs (Qj E Y fun _ B => QI (Qn B Y ?_))
 clear E a B; intro a E
 refine Qk (Qm E S Y Y Y (lo_Compact h0 (by (omega))) lerf ?_)
 clear E a S; rintro a a3 w a0 a1 a2 S E
 refine Qj E Y ?_
 clear E a; intro a E
 refine Jj ?_
 exact Qa E Tryz.results164 Y ⟨_, Y, a0, a1, a2, S⟩
theorem lo_Splice {M : Hp} {v0 v2 : Value} {l0 l2 : List Int} (h0 : Qy M v0 l0) (h2 : Qy M v2 l2){x1 : Int} (g1 : -9223372036854775808 ≤ x1 ∧ x1 ≤ 9223372036854775807)(hb : l0.length + l2.length ≤ 1000000000000) :
  Pu Tryz.prog (.func (.func 242) #[] #[]) M [v0, .int .i64 x1, v2] (fun r M' => Qy M' r (VS l0 x1 l2)) := by
 refine Qd Tryz.func242 Y Tryz.ntmps242 Y Tryz.call242 ?_
 intro a w M1 H hM1 S E
 replace h0 := h0.le hM1
 replace h2 := h2.le hM1
 have b0 := h0.bound
 have b2 := h2.bound
 refine Qs (Qj E Y fun _ B => QI (Qn B Y fun _ D => Qt D Y QE h0.len fun _ F => Qj F Y fun _ G => QI (Qn G Y fun _ I => Qt I Y QE h2.len fun _ J => Qj J Y fun _ K => QI (QD 2 K Y fun _ L => Qp (m := (((l0).length + (l2).length : Nat) : Int)) L Y Y ?_))))
 clear E a B D F G I J K L; intro a E
 refine Qk (JD (k := (l0).length + (l2).length) E S Y Y Y QE Y (by omega) (by omega) (by omega) ?_)
 clear E a S; rintro a w d3 E S
 replace S := S.made0
 refine Qj E Y fun _ B => ZJ (QW (Qs (Qn B Y fun _ D => QK D Y Y fun _ F => Qj F Y ?_)))
 clear E a B D F; intro a E
 refine Qz ?_
 refine Ql E Y (fun a8 => ?_) (fun a8 => ?_)
 ·refine Qs (QD 2 E Y ?_)
  clear E a; intro a E
  refine Qk (JJ (xs := ([] : List Int)) E S Y Y Y QE h0 (by (simp; omega)) ?_)
  clear E a S; rintro a w d4 E S
  refine Qj E Y ?_
  clear E a; intro a E
  refine YO ?_
  have S0 := S; clear S
  obtain ⟨a9, a4, b1, S⟩ := S0.freezeI (by ((simp; omega)))
  clear S0
  replace h0 := h0.le a4
  replace h2 := h2.le a4
  exact Qa E Tryz.results242 Y ⟨_, Y, a9, a4, (QX.eqL b1 (by unfold VS; simp only [List.nil_append]; first | (have e := List.eq_nil_of_length_eq_zero (l := l2) (by omega); subst e; simp; done) | (rw [show min (if x1 < 0 then (x1 + ↑l0.length).toNat else x1.toNat) l0.length = l0.length by split <;> omega]; simp; done) | (rw [show min (if x1 < 0 then (x1 + ↑l0.length).toNat else x1.toNat) l0.length = 0 by split <;> omega]; simp; done) | (rw [show min (if x1 < 0 then (x1 + ↑l0.length).toNat else x1.toNat) l0.length = x1.toNat by split <;> omega]; done) | (rw [show min (if x1 < 0 then (x1 + ↑l0.length).toNat else x1.toNat) l0.length = (↑l0.length + x1).toNat by split <;> omega]; done))), S⟩
 ·refine Qs (QD 2 E Y fun _ B => Ys B Y Y fun _ D => Qj D Y ?_)
  clear E a B D; intro a E
  refine Qz ?_
  refine Ql E Y (fun b3 => ?_) (fun b3 => ?_)
  ·refine Qs (QD 2 E Y ?_)
   clear E a; intro a E
   refine Qk (JJ (xs := ([] : List Int)) E S Y Y Y QE h0 (by (simp; omega)) ?_)
   clear E a S; rintro a w d5 E S
   refine Qn E Y ?_
   clear E a; intro a E
   refine Qk (JJ (xs := [] ++ l0) E S Y Y Y QE h2 (by (simp; omega)) ?_)
   clear E a S; rintro a w d6 E S
   refine Qj E Y ?_
   clear E a; intro a E
   refine YO ?_
   have S0 := S; clear S
   obtain ⟨b4, a5, b5, S⟩ := S0.freezeI (by ((simp; omega)))
   clear S0
   replace h0 := h0.le a5
   replace h2 := h2.le a5
   exact Qa E Tryz.results242 Y ⟨_, Y, b4, a5, (QX.eqL b5 (by unfold VS; simp only [List.nil_append]; first | (have e := List.eq_nil_of_length_eq_zero (l := l2) (by omega); subst e; simp; done) | (rw [show min (if x1 < 0 then (x1 + ↑l0.length).toNat else x1.toNat) l0.length = l0.length by split <;> omega]; simp; done) | (rw [show min (if x1 < 0 then (x1 + ↑l0.length).toNat else x1.toNat) l0.length = 0 by split <;> omega]; simp; done) | (rw [show min (if x1 < 0 then (x1 + ↑l0.length).toNat else x1.toNat) l0.length = x1.toNat by split <;> omega]; done) | (rw [show min (if x1 < 0 then (x1 + ↑l0.length).toNat else x1.toNat) l0.length = (↑l0.length + x1).toNat by split <;> omega]; done))), S⟩
  ·refine Qs (QD 2 E Y fun _ B => e_negx (m := -(((l0).length : Nat) : Int)) B Y (hm := Y) fun _ D => Jc D Y Y fun _ F => Qj F Y ?_)
   clear E a B D F; intro a E
   refine Qz ?_
   refine Ql E Y (fun b6 => ?_) (fun b6 => ?_)
   ·refine Qs (QD 2 E Y ?_)
    clear E a; intro a E
    refine Qk (JJ (xs := ([] : List Int)) E S Y Y Y QE h2 (by (simp; omega)) ?_)
    clear E a S; rintro a w d7 E S
    refine Qn E Y ?_
    clear E a; intro a E
    refine Qk (JJ (xs := [] ++ l2) E S Y Y Y QE h0 (by (simp; omega)) ?_)
    clear E a S; rintro a w d8 E S
    refine Qj E Y ?_
    clear E a; intro a E
    refine YO ?_
    have S0 := S; clear S
    obtain ⟨b7, a6, b8, S⟩ := S0.freezeI (by ((simp; omega)))
    clear S0
    replace h0 := h0.le a6
    replace h2 := h2.le a6
    exact Qa E Tryz.results242 Y ⟨_, Y, b7, a6, (QX.eqL b8 (by unfold VS; simp only [List.nil_append]; first | (have e := List.eq_nil_of_length_eq_zero (l := l2) (by omega); subst e; simp; done) | (rw [show min (if x1 < 0 then (x1 + ↑l0.length).toNat else x1.toNat) l0.length = l0.length by split <;> omega]; simp; done) | (rw [show min (if x1 < 0 then (x1 + ↑l0.length).toNat else x1.toNat) l0.length = 0 by split <;> omega]; simp; done) | (rw [show min (if x1 < 0 then (x1 + ↑l0.length).toNat else x1.toNat) l0.length = x1.toNat by split <;> omega]; done) | (rw [show min (if x1 < 0 then (x1 + ↑l0.length).toNat else x1.toNat) l0.length = (↑l0.length + x1).toNat by split <;> omega]; done))), S⟩
   ·refine Qs (Qn E Y fun _ B => Jc B Y Y fun _ D => Qj D Y ?_)
    clear E a B D; intro a E
    refine Qz ?_
    refine Ql E Y (fun b9 => ?_) (fun b9 => ?_)
    ·refine Qh (QD 2 E Y fun _ B => Qp (m := (((l0).length : Nat) : Int) + x1) B Y Y fun _ D => Qj D Y ?_)
     clear E a B D; intro a E
     refine Jz (ZK (JZ (Je ?_)))
     replace S := S.mono_heap (w' := World.drew _) rfl
     refine Jb (C := fun x w => agree M1 w) (bf := (fun i => [])) [0, 1, 2, 3, 5, 7, 8, 9, 11] [0, 1, 2, 3, 5, 7, 8, 9, 4, 6, 10, 11] Tryz.mixed (by kernel_rfl) (fun x hq => S.imm) ?_
     refine QU E Y (fun w hC => (QL E Y)) fun _ B => QU B Y (fun w hC => (QL B Y)) fun _ D => QU D Y (fun w hC => (QL D Y)) ?_
     clear E a B D; intro a E
     obtain ⟨c0, c1, a0⟩ := h0.subv 0 (((((l0).length : Nat) : Int) + x1).toNat) (by omega) (by omega)
     simp only [List.drop_zero] at a0
     replace a0 : Qy M1 c0 ((l0).take (((((l0).length : Nat) : Int) + x1).toNat)) := a0
     refine QU E Y (fun w hC => (zp E Y Y QE c1 (by omega))) fun _ B => QU B Y (fun w hC => (QL B Y)) fun _ D => QU D Y (fun w hC => (QL D Y)) fun _ F => QU F Y (fun w hC => (QL F Y)) ?_
     clear E a B D F; intro a E
     obtain ⟨c2, c3, a1⟩ := h0.subv (((((l0).length : Nat) : Int) + x1).toNat) ((l0).length) (by omega) (by omega)
     simp only [List.take_length] at a1
     replace a1 : Qy M1 c2 ((l0).drop (((((l0).length : Nat) : Int) + x1).toNat)) := a1
     refine QU E Y (fun w hC => (Wh E Y Y QE h0.len c3 (by omega))) ?_
     clear E a; intro a E
     refine ZP Y Y Y (JJ (xs := ([] : List Int)) E S Y Y Y QE a0 (by (simp; omega)) ?_)
     clear E a S; rintro a w d9 E S
     refine ⟨fun x hq hb => (Qu lerf S.imm), ?_⟩
     refine ZP Y Y Y (JJ (xs := [] ++ ((l0).take (((((l0).length : Nat) : Int) + x1).toNat))) E S Y Y Y QE h2 (by (simp; omega)) ?_)
     clear E a S; rintro a w e0 E S
     refine ⟨fun x hq hb => (Qu lerf S.imm), ?_⟩
     refine ZP Y Y Y (JJ (xs := ([] ++ ((l0).take (((((l0).length : Nat) : Int) + x1).toNat))) ++ l2) E S Y Y Y QE a1 (by (simp; omega)) ?_)
     clear E a S; rintro a w e1 E S
     refine ⟨fun x hq hb => (Qu lerf S.imm), ?_⟩
     refine QU E Y (fun w hC => (Jx E Y)) ?_
     clear E a; intro a E
     refine JI (JH ?_)
     refine JZ (QM ?_)
     have S0 := S; clear S
     obtain ⟨c4, a7, c5, S⟩ := S0.freezeI (by ((simp; omega)))
     clear S0
     replace h0 := h0.le a7
     replace h2 := h2.le a7
     exact Qa E Tryz.results242 Y ⟨_, Y, c4, a7, (QX.eqL c5 (by unfold VS; simp only [List.nil_append]; first | (have e := List.eq_nil_of_length_eq_zero (l := l2) (by omega); subst e; simp; done) | (rw [show min (if x1 < 0 then (x1 + ↑l0.length).toNat else x1.toNat) l0.length = l0.length by split <;> omega]; simp; done) | (rw [show min (if x1 < 0 then (x1 + ↑l0.length).toNat else x1.toNat) l0.length = 0 by split <;> omega]; simp; done) | (rw [show min (if x1 < 0 then (x1 + ↑l0.length).toNat else x1.toNat) l0.length = x1.toNat by split <;> omega]; done) | (rw [show min (if x1 < 0 then (x1 + ↑l0.length).toNat else x1.toNat) l0.length = (↑l0.length + x1).toNat by split <;> omega]; done))), S⟩
    ·refine Qx (ZK (JZ (Je ?_)))
     replace S := S.mono_heap (w' := World.drew _) rfl
     refine Jb (C := fun x w => agree M1 w) (bf := (fun i => [])) [0, 1, 2, 3, 5, 7, 8, 9, 11] [0, 1, 2, 3, 5, 7, 8, 9, 4, 6, 10, 11] Tryz.mixed (by kernel_rfl) (fun x hq => S.imm) ?_
     refine QU E Y (fun w hC => (QL E Y)) fun _ B => QU B Y (fun w hC => (QL B Y)) fun _ D => QU D Y (fun w hC => (QL D Y)) ?_
     clear E a B D; intro a E
     obtain ⟨c6, c7, a2⟩ := h0.subv 0 ((x1).toNat) (by omega) (by omega)
     simp only [List.drop_zero] at a2
     replace a2 : Qy M1 c6 ((l0).take ((x1).toNat)) := a2
     refine QU E Y (fun w hC => (zp E Y Y QE c7 (by omega))) fun _ B => QU B Y (fun w hC => (QL B Y)) fun _ D => QU D Y (fun w hC => (QL D Y)) fun _ F => QU F Y (fun w hC => (QL F Y)) ?_
     clear E a B D F; intro a E
     obtain ⟨c8, c9, a3⟩ := h0.subv ((x1).toNat) ((l0).length) (by omega) (by omega)
     simp only [List.take_length] at a3
     replace a3 : Qy M1 c8 ((l0).drop ((x1).toNat)) := a3
     refine QU E Y (fun w hC => (Wh E Y Y QE h0.len c9 (by omega))) ?_
     clear E a; intro a E
     refine ZP Y Y Y (JJ (xs := ([] : List Int)) E S Y Y Y QE a2 (by (simp; omega)) ?_)
     clear E a S; rintro a w e2 E S
     refine ⟨fun x hq hb => (Qu lerf S.imm), ?_⟩
     refine ZP Y Y Y (JJ (xs := [] ++ ((l0).take ((x1).toNat))) E S Y Y Y QE h2 (by (simp; omega)) ?_)
     clear E a S; rintro a w e3 E S
     refine ⟨fun x hq hb => (Qu lerf S.imm), ?_⟩
     refine ZP Y Y Y (JJ (xs := ([] ++ ((l0).take ((x1).toNat))) ++ l2) E S Y Y Y QE a3 (by (simp; omega)) ?_)
     clear E a S; rintro a w e4 E S
     refine ⟨fun x hq hb => (Qu lerf S.imm), ?_⟩
     refine QU E Y (fun w hC => (Jx E Y)) ?_
     clear E a; intro a E
     refine JI (JH ?_)
     refine JZ (QM ?_)
     have S0 := S; clear S
     obtain ⟨d0, d1, d2, S⟩ := S0.freezeI (by ((simp; omega)))
     clear S0
     exact Qa E Tryz.results242 Y ⟨_, Y, d0, d1, (QX.eqL d2 (by unfold VS; simp only [List.nil_append]; first | (have e := List.eq_nil_of_length_eq_zero (l := l2) (by omega); subst e; simp; done) | (rw [show min (if x1 < 0 then (x1 + ↑l0.length).toNat else x1.toNat) l0.length = l0.length by split <;> omega]; simp; done) | (rw [show min (if x1 < 0 then (x1 + ↑l0.length).toNat else x1.toNat) l0.length = 0 by split <;> omega]; simp; done) | (rw [show min (if x1 < 0 then (x1 + ↑l0.length).toNat else x1.toNat) l0.length = x1.toNat by split <;> omega]; done) | (rw [show min (if x1 < 0 then (x1 + ↑l0.length).toNat else x1.toNat) l0.length = (↑l0.length + x1).toNat by split <;> omega]; done))), S⟩
theorem impl_Splice {M : Hp} {v0 v2 : Value} {l0 l2 : List Int} (h0 : Qy M v0 l0) (h2 : Qy M v2 l2){x1 : Int} (g1 : -9223372036854775808 ≤ x1 ∧ x1 ≤ 9223372036854775807)(hb : l0.length + l2.length ≤ 1000000000000) :
  Pu Tryz.prog (.func (.func 165) #[] #[]) M [v0, .int .i64 x1, v2] (fun r M' => Qy M' r (VS l0 x1 l2)) := by
 refine Qd Tryz.func165 Y Tryz.ntmps165 Y Tryz.call165 ?_
 intro a w M1 H hM1 S E
 replace h0 := h0.le hM1
 replace h2 := h2.le hM1
 have b0 := h0.bound
 have b2 := h2.bound
 refine Qs (Qj E Y fun _ B => QI (QD 3 B Y ?_))
 clear E a B; intro a E
 refine Qk (Qm E S Y Y Y (lo_Splice h0 h2 (by (omega)) (by (omega))) lerf ?_)
 clear E a S; rintro a a3 w a0 a1 a2 S E
 refine Qj E Y ?_
 clear E a; intro a E
 refine Jj ?_
 exact Qa E Tryz.results165 Y ⟨_, Y, a0, a1, a2, S⟩
theorem lo_TrimLeft1 {M : Hp} {m8 : Value} {q8 : List Int} (hm8 : ye M m8 (Sl.encS q8)){x0 : Int} {bx8 : Nat} (hbx8 : M bx8 = some (.cells #[m8] 116)) :
  Pu Tryz.prog (.func (.func 314) #[] #[.pointer (some ⟨bx8, 0, none⟩)]) M [.int .i64 x0] (fun r M' => r = .bool (decide (x0 ∈ q8))) := by
 refine Qd Tryz.func314 Y Tryz.ntmps314 Y Tryz.call314 ?_
 intro a w M1 H hM1 S E
 replace hm8 := hm8.le hM1
 replace hbx8 := hM1.2 _ _ hbx8
 refine Qs (Qj E Y fun _ B => QI (Qb B Y Tryz.isAgg116 S.imm (Qf hbx8) fun _ C => Qn C Y fun _ D => qm S.imm hm8 D Yp Y Y fun _ F => Qn F Y fun _ G => Qg G Y Y fun _ I => Qg I Y Y ?_))
 clear E a B C D F G I; intro a E
 refine Qk (Ja (cs := #[]) E S Y Tryz.zeroValue117 Y ?_)
 clear E a S; rintro a w a0 E S
 refine Jm (Zv (us := []) E S Y Y (Tryz.sizeOf117 _) Y (by intro u hu; cases hu) ?_)
 clear E a S; rintro a w E S
 replace S : St w M1 (Jk a0 (.cells #[] 117) :: _) := S
 have S0 := S; clear S
 obtain ⟨a1, a2, a3, S⟩ := S0.freezeB
 clear S0
 refine Qj E Y fun _ B => QI (QD 2 B Y ?_)
 clear E a B; intro a E
 refine Jj ?_
 exact Qa E Tryz.results314 Y ⟨_, Y, a1, a2, Y, S⟩
theorem lo_TrimLeft {M : Hp} {v0 v1 : Value} {l0 l1 : List Int} (h0 : Qy M v0 l0) (h1 : Qy M v1 l1) (hb : l0.length ≤ 1000000000000) :
  Pu Tryz.prog (.func (.func 243) #[] #[]) M [v0, v1] (fun r M' => Qy M' r ((l0).dropWhile (fun x => decide (x ∈ l1)))) := by
 refine Qd Tryz.func243 Y Tryz.ntmps243 Y Tryz.call243 ?_
 intro a w M1 H hM1 S E
 replace h0 := h0.le hM1
 replace h1 := h1.le hM1
 have b0 := h0.bound
 have b1 := h1.bound
 refine Qs (Qj E Y fun _ B => QI (Qn B Y ?_))
 clear E a B; intro a E
 refine Qk (VF (p := []) E S Y Y Y (ZE h1) lerf ?_)
 clear E a S; rintro a _ w a4 _ a2 ⟨a5, rfl, rfl⟩ S E
 replace S : St w a4 (Zg a5 (Qw l1) :: _) := S
 replace h0 := h0.le a2
 refine Qk (Ja (cs := #[.map none]) E S Y Tryz.zeroValue116 Y ?_)
 clear E a S; rintro a w b2 E S
 refine Jm (QS E S Y Y (Tryz.sizeOf116 _) Y ?_)
 clear E a S; rintro a w E S
 refine QI (Qn E Y ?_)
 clear E a; intro a E
 replace S := S.front1
 have S0 := S; clear S
 obtain ⟨b3, a3, a0, S⟩ := S0.freezeM
 clear S0
 replace h0 := h0.le a3
 have S0 := S; clear S
 obtain ⟨b4, a1, a6, S⟩ := S0.freezeB
 clear S0
 replace h0 := h0.le a1
 replace a0 := a0.le a1
 refine Qv E Y Y ?_
 clear E a; intro a E
 refine Qk (Qm E S Y Y Y (qM h0 ⟨Y, fun zx0 => lo_TrimLeft1 (x0 := zx0) a0 a6⟩ (by (omega))) lerf ?_)
 clear E a S; rintro a b5 w a7 a8 a9 S E
 refine Qj E Y ?_
 clear E a; intro a E
 refine Jj ?_
 exact Qa E Tryz.results243 Y ⟨_, Y, a7, (a2.trans (a3.trans (a1.trans a8))), (QX.eqL a9 (by (simp only [Yd]))), S⟩
theorem impl_TrimLeft {M : Hp} {v0 v1 : Value} {l0 l1 : List Int} (h0 : Qy M v0 l0) (h1 : Qy M v1 l1) (hb : l0.length ≤ 1000000000000) :
  Pu Tryz.prog (.func (.func 166) #[] #[]) M [v0, v1] (fun r M' => Qy M' r ((l0).dropWhile (fun x => decide (x ∈ l1)))) := by
 refine Qd Tryz.func166 Y Tryz.ntmps166 Y Tryz.call166 ?_
 intro a w M1 H hM1 S E
 replace h0 := h0.le hM1
 replace h1 := h1.le hM1
 have b0 := h0.bound
 have b1 := h1.bound
 have hw1 := vv (fun x => decide (x ∈ l1)) l0
 refine Qs (Qj E Y fun _ B => QI (QD 2 B Y ?_))
 clear E a B; intro a E
 refine Qk (Qm E S Y Y Y (lo_TrimLeft h0 h1 (by (omega))) lerf ?_)
 clear E a S; rintro a a3 w a0 a1 a2 S E
 refine Qj E Y ?_
 clear E a; intro a E
 refine Jj ?_
 exact Qa E Tryz.results166 Y ⟨_, Y, a0, a1, a2, S⟩
theorem vQ {M : Hp} {m8 : Value} {q8 : List Int} (hm8 : ye M m8 (Sl.encS q8)){x0 : Int} {bx8 : Nat} (hbx8 : M bx8 = some (.cells #[m8] 116)) :
  Pu Tryz.prog (.func (.func 315) #[] #[.pointer (some ⟨bx8, 0, none⟩)]) M [.int .i64 x0] (fun r M' => r = .bool (decide (x0 ∈ q8))) := by
 refine Qd Tryz.func315 Y Tryz.ntmps315 Y Tryz.call315 ?_
 intro a w M1 H hM1 S E
 replace hm8 := hm8.le hM1
 replace hbx8 := hM1.2 _ _ hbx8
 refine Qs (Qj E Y fun _ B => QI (Qb B Y Tryz.isAgg116 S.imm (Qf hbx8) fun _ C => Qn C Y fun _ D => qm S.imm hm8 D Yp Y Y fun _ F => Qn F Y fun _ G => Qg G Y Y fun _ I => Qg I Y Y ?_))
 clear E a B C D F G I; intro a E
 refine Qk (Ja (cs := #[]) E S Y Tryz.zeroValue117 Y ?_)
 clear E a S; rintro a w a0 E S
 refine Jm (Zv (us := []) E S Y Y (Tryz.sizeOf117 _) Y (by intro u hu; cases hu) ?_)
 clear E a S; rintro a w E S
 replace S : St w M1 (Jk a0 (.cells #[] 117) :: _) := S
 have S0 := S; clear S
 obtain ⟨a1, a2, a3, S⟩ := S0.freezeB
 clear S0
 refine Qj E Y fun _ B => QI (QD 2 B Y ?_)
 clear E a B; intro a E
 refine Jj ?_
 exact Qa E Tryz.results315 Y ⟨_, Y, a1, a2, Y, S⟩
end Go.Proofs.YtgceicmfefpngaaGreat.wFnScriptOwn
