import Derived.Test.YtlmpgefhnmfhpaaGreatWFnSetScripta
set_option linter.unusedVariables false
set_option linter.unusedSimpArgs false
namespace Go.Proofs.YtlmpgefhnmfhpaaGreat.wFnSetScript
open Go Go.Sl
set_option maxRecDepth 100000
set_option maxHeartbeats 4000000
variable {M : Hp} {v0 v1 v2 v3 v4 v5 v6 v7 : Value} {l0 l1 l2 l3 l4 l5 l6 l7 : List Int} {n0 n1 n2 n3 n4 n5 n6 n7 : Nat} {x0 x1 x2 x3 x4 x5 x6 x7 : Int}
theorem jp {M : Hp} {sd sa sb st sx : Int} {v0 : Value} {l0 : List Int} (h0 : Zh M v0 l0) :
  Pu Tryz.prog (.func (.func 40) #[] #[]) M [.agg #[.int .i64 sd, .int .i64 sa, .int .i64 sb, .int .i64 st, .int .i64 sx, v0]] (fun r M' => r = .bool (decide (l0.length ≤ 2147483647))) := by
 refine Jt Tryz.func40 Y Tryz.ntmps40 Y Tryz.call40 ?_
 intro a w M1 H hM1 S E
 replace h0 := h0.le hM1
 have b0 := h0.bound
 refine QF ?_
 refine QB (Yz (cs := #[.int .i64 sd, .int .i64 sa, .int .i64 sb, .int .i64 st, .int .i64 sx, v0]) E S Y Y Y ?_)
 clear E a S; rintro a w a4 E S
 obtain ⟨a1, a0, a2, S⟩ := S.freezeB
 replace h0 := h0.le a0
 refine Qx E Y fun _ B => VM (Qa B Y (US _) fun _ C => Qz C Y Tryz.isAgg22 S.imm (Qf a2 Y) fun _ D => Jl D Y JE h0.len fun _ F => Ws F Y Y ?_)
 clear E a B C D F; intro a E
 refine Jx ?_
 refine QJ E Y (fun a3 => ?_) (fun a3 => ?_)
 ·refine QF (Qx E Y ?_)
  clear E a; intro a E
  refine WF ?_
  exact Qk E Tryz.results40 Y ⟨_, Y, a1, a0, (bF (by omega)), S⟩
 ·refine J_l (Qx E Y ?_)
  clear E a; intro a E
  refine JQ ?_
  exact Qk E Tryz.results40 Y ⟨_, Y, a1, a0, (bT (by omega)), S⟩
theorem jq {M : Hp} {v0 : Value} {l0 : List UK} (h0 : JN 6 yq M v0 l0)  :
  Pu Tryz.prog (.func (.func 23) #[] #[]) M [v0] (fun r M' => r = .bool (decide (l0.length ≤ 2147483647 ∧ ∀ s ∈ l0, s.2.2.2.2.2.length ≤ 2147483647))) := by
 refine Jt Tryz.func23 Y Tryz.ntmps23 Y Tryz.call23 ?_
 intro a w M1 H hM1 S E
 replace h0 := h0.le JF hM1
 have b0 := h0.bound
 refine QF (Qx E Y fun _ B => VM (Qq B Y fun _ C => Jl C Y T33 h0.len fun _ D => Ws D Y Y ?_))
 clear E a B C D; intro a E
 refine Jx ?_
 refine QJ E Y (fun a8 => ?_) (fun a8 => ?_)
 ·refine QF (Qx E Y ?_)
  clear E a; intro a E
  refine WF ?_
  exact Qk E Tryz.results23 Y ⟨_, Y, M1, lerf, (bF (by omega)), S⟩
 ·refine J_q (Qq E Y fun _ B => Jl B Y T33 h0.len fun _ C => Qq C Y ?_)
  clear E a B C; intro a E
  refine VJ ?_
  refine Jb (γ := Nat) (fun (k : Nat) a w => ∃ (a1 : Hp), Hp.le M1 a1 ∧ St w a1 (H) ∧ Env a 18 [] [(8, v0), (9, .int .i64 (((l0).length : Nat) : Int)), (10, .int .i64 ((k : Nat) : Int))] ∧ (k ≤ (l0).length) ∧ (∀ s ∈ l0.take k, s.2.2.2.2.2.length ≤ 2147483647)) (fun k => ((l0).length) - k) 0 ⟨M1, lerf, S, E.keep ⟨Y, Y, Y, trivial⟩, by ((try clear S); (try clear E); first | assumption | omega | rfl | (simp; done) | (simp_all; done) | (simp [List.take_add_one, *]; done) | grind [List.take_add_one]), (by simp)⟩ ?_
  try clear E
  try clear S
  try clear a
  try clear w
  rintro k a w ⟨a1, a3, S, E, b7, b8⟩
  replace h0 := h0.le JF a3
  refine QF (ZG E Y Y ?_)
  clear E a; intro a E
  refine ZB ?_
  refine QJ E Y (fun a9 => ?_) (fun a9 => ?_)
  ·refine zC ?_
   obtain ⟨a0, b1⟩ : ∃ x, (l0)[k]? = some x := ⟨_, List.getElem?_eq_getElem (by first | omega | (simp; done) | (simp; omega) | (simp_all; omega))⟩
   obtain ⟨b9, a4, b2, b3, a2⟩ := RdSS.at h0 b1
   have c0 := a2.bound
   refine Yh E Y Y T33 b2 Y fun _ B => Wa (cs := [.int .i64 a0.1, .int .i64 a0.2.1, .int .i64 a0.2.2.1, .int .i64 a0.2.2.2.1, .int .i64 a0.2.2.2.2.1, a4]) B Y (Tryz.isAgg40 _) (Tryz.sizeOf40 _) S.imm b3 ?_
   clear E a B; intro a E
   refine QB (ZL (cs := #[.int .i64 0, .int .i64 0, .int .i64 0, .int .i64 0, .int .i64 0, .slice none 0 0]) E S Y Tryz.zeroValue40 Y ?_)
   clear E a S; rintro a w b4 E S
   refine Jq (Je (us := [.int .i64 a0.1, .int .i64 a0.2.1, .int .i64 a0.2.2.1, .int .i64 a0.2.2.2.1, .int .i64 a0.2.2.2.2.1, a4]) E S Y Y (Tryz.sizeOf40 _) Y (by intro u hu; simp only [List.mem_cons, List.not_mem_nil, or_false] at hu; rcases hu with rfl | rfl | rfl | rfl | rfl | rfl <;> first | exact rfl | exact rfl | exact rfl | exact rfl | exact rfl | exact (JN.one' a2)) ?_)
   clear E a S; rintro a w E S
   replace S : St w a1 (Qh b4 (.cells #[.int .i64 a0.1, .int .i64 a0.2.1, .int .i64 a0.2.2.1, .int .i64 a0.2.2.2.1, .int .i64 a0.2.2.2.2.1, a4] 40) :: _) := S
   have S0 := S; clear S
   obtain ⟨c1, a5, b5, S⟩ := S0.freezeB
   clear S0
   replace a2 := a2.le a5
   refine QZ (Ga E Y (Tryz.isAgg40 _) (Tryz.sizeOf40 _) S.imm b5 ?_)
   clear E a; intro a E
   refine QB (Jm E S Y Y Y (jp a2) lerf ?_)
   clear E a S; rintro a _ w a6 a7 rfl S E
   refine Zk E Y ?_
   clear E a; intro a E
   refine Jx ?_
   refine Yl E Y (fun b6 => ?_) (fun b6 => ?_)
   ·refine Za ?_
    refine Qr (Qx E Y ?_)
    clear E a; intro a E
    refine J_s (jd (qW ?_))
    exact Qk E Tryz.results23 Y ⟨_, Y, a6, (a3.trans (a5.trans a7)), (bF (by (intro h9; have h8 := h9.2 _ (List.mem_of_getElem? (by assumption)); simp_all; done))), S⟩
   ·refine Ja ?_
    refine yY (QY (m := ((k + 1 : Nat) : Int)) E Y Y fun _ B => Qq B Y ?_)
    clear E a B; intro a E
    refine Jx ?_
    exact ⟨k + 1, ⟨a6, (a3.trans (a5.trans a7)), S, E.keep ⟨Y, Y, Y, trivial⟩, by ((try clear S); (try clear E); first | assumption | omega | rfl | (simp; done) | (simp_all; done) | (simp [List.take_add_one, *]; done) | grind [List.take_add_one]), (by refine tkA (by assumption) (by assumption) ?_; simp_all; done)⟩, by omega⟩
  ·refine Um (Qx E Y ?_)
   clear E a; intro a E
   refine JQ ?_
   exact Qk E Tryz.results23 Y ⟨_, Y, a1, a3, (bT (by (exact ⟨by omega, tkE (by assumption) (by omega)⟩))), S⟩
theorem vr {M : Hp} {n0 : Nat} (hb0 : n0 ≤ 1000000000000) :
  Sp Tryz.prog (.func (.func 85) #[] #[]) M [.int .i64 ((n0 : Nat) : Int)] [] (fun r M' C' => ∃ b m, r = .pointer (some ⟨b, 0, none⟩) ∧ C' = [Qh b (.cells #[.map (some m)] 145), Qv m []]) := by
 refine Qu Tryz.func85 Y Tryz.ntmps85 Y Tryz.call85 ?_
 intro a w M1 H hM1 S E
 refine QF (Qx E Y fun _ B => QZ (Qq B Y ?_))
 clear E a B; intro a E
 refine QB (YW E S Y JJ Y ?_)
 clear E a S; rintro a w a0 E S
 replace S : St w M1 (Qv a0 ([] : List Int) :: _) := S
 refine QB (ZL (cs := #[.map none]) E S Y Tryz.zeroValue145 Y ?_)
 clear E a S; rintro a w a1 E S
 refine Jq (Wf E S Y Y (Tryz.sizeOf145 _) Y ?_)
 clear E a S; rintro a w E S
 refine QZ (Qx E Y ?_)
 clear E a; intro a E
 refine JQ ?_
 replace S := S.front1.front1
 exact Qk E Tryz.results85 Y ⟨_, Y, M1, _, lerf, ⟨_, _, Y, Y⟩, S⟩
theorem U_Add {M : Hp} {m9 : Nat} {l9 : List Int} {x0 : Int} :
  Sp Tryz.prog (.func (.func 86) #[] #[]) M [.map (some m9), .int .i64 x0] [Qv m9 l9] (fun r M' C' => (∃ z, r = .bool z) ∧ C' = [Qv m9 (Zr l9 x0)]) := by
 refine Qu Tryz.func86 Y Tryz.ntmps86 Y Tryz.call86 ?_
 intro a w M1 H hM1 S E
 replace S : St w M1 (Qv m9 l9 :: _) := S
 refine QF (Qx E Y fun _ B => QZ (Qq B Y fun _ C => QS C ((UL C S JJ Y).trans (by rw [Yg])) fun _ D => Qx D Y fun _ F => QZ (JR 2 F Y fun _ G => ZP (u := .agg #[]) (vs := []) G Y (fun w => qo  w) ?_)))
 clear E a B C D F G; intro a E
 refine Jq (We E S JJ Y Y Y ?_)
 clear E a S; rintro a w E S
 refine QZ (JR 2 E Y fun _ B => QS B ((UL B S JJ Y).trans (by rw [Yg])) fun _ C => WZ C Y Y fun _ D => Qx D Y ?_)
 clear E a B C D; intro a E
 refine JQ ?_
 exact Qk E Tryz.results86 Y ⟨_, Y, M1, _, lerf, ⟨⟨_, Y⟩, Y⟩, S⟩
theorem UO {M : Hp} {v0 : Value} {l0 : List Int} (h0 : Zh M v0 l0)(hb : l0.length ≤ 1000000000) :
  Sp Tryz.prog (.func (.func 59) #[] #[]) M [v0] [] (fun r M' C' => ∃ b_ m_ l_, C' = [Qh b_ (.cells #[.map (some m_)] 145), Qv m_ l_] ∧ r = .iface 116 (.pointer (some ⟨b_, 0, none⟩)) ∧ (l_.Nodup) ∧ (∀ z, z ∈ l_ ↔ z ∈ l0)) := by
 refine Qu Tryz.func59 Y Tryz.ntmps59 Y Tryz.call59 ?_
 intro a w M1 H hM1 S E
 replace h0 := h0.le hM1
 have b0 := h0.bound
 refine QF (Qx E Y fun _ B => QZ (Qq B Y fun _ C => Jl C Y JE h0.len ?_))
 clear E a B C; intro a E
 refine QB (QI (p := []) E S Y Y Y (vr (by first | assumption | omega)) lerf ?_)
 clear E a S; rintro a _ w a2 _ a4 ⟨a0, mm_4, rfl, rfl⟩ S E
 replace S : St w a2 (Qh a0 (.cells #[.map (some mm_4)] 145) :: Qv mm_4 ([] : List Int) :: H) := S
 replace h0 := h0.le a4
 refine Qx E Y fun _ B => VM (Qq B Y fun _ C => Jl C Y JE h0.len fun _ D => Qq D Y ?_)
 clear E a B C D; intro a E
 refine VJ ?_
 replace S := S.front1
 replace S := S.reM (L' := (Sl.encS (Qp [] (l0.take 0)))) (congrArg Sl.encS (show ([] : List Int) = (Qp [] (l0.take 0)) by first | rfl | (simp [Qp]; done) | (rw [List.take_add_one]; simp [*, Qe]; done)))
 refine Jb (γ := Nat) (fun (k : Nat) a w => ∃ (a1 : Hp), Hp.le a2 a1 ∧ St w a1 (Qv mm_4 (Qp [] (l0.take k)) :: Qh a0 (.cells #[.map (some mm_4)] 145) :: H) ∧ Env a 23 [] [(3, .pointer (some ⟨a0, 0, none⟩)), (9, v0), (10, .int .i64 (((l0).length : Nat) : Int)), (11, .int .i64 ((k : Nat) : Int))] ∧ (k ≤ (l0).length)) (fun k => ((l0).length) - k) 0 ⟨a2, lerf, S, E.keep ⟨Y, Y, Y, Y, trivial⟩, by ((try clear S); (try clear E); first | assumption | omega | rfl | (simp; done) | (simp_all; done) | (simp [List.take_add_one, *]; done) | grind [List.take_add_one])⟩ ?_
 try clear E
 try clear S
 try clear a
 try clear w
 rintro k a w ⟨a1, a3, S, E, b3⟩
 replace h0 := h0.le a3
 refine QF (ZG E Y Y ?_)
 clear E a; intro a E
 refine ZB ?_
 refine QJ E Y (fun a7 => ?_) (fun a7 => ?_)
 ·refine zC ?_
  obtain ⟨a5, a8⟩ : ∃ x, (l0)[k]? = some x := ⟨_, List.getElem?_eq_getElem (by first | omega | (simp; done) | (simp; omega) | (simp_all; omega))⟩
  obtain ⟨b4, a9, b1⟩ := h0.at a8
  refine Yh E Y Y JE a9 Y fun _ B => Qz B Y Tryz.isAgg3 S.imm b1 fun _ C => Qx C Y fun _ D => qd (Qq D Y fun _ F => QS F (Qb F Y Y) fun _ G => JD G Y (Tryz.isAgg145 _) (JV (S.mem (.tail _ (.head _)))) fun _ I => Qq I Y ?_)
  clear E a B C D F G I; intro a E
  refine QB (QI (p := [Qv mm_4 (Qp [] (l0.take k))]) E S Y Y Y (U_Add) lerf ?_)
  clear E a S; rintro a _ w a6 _ b2 ⟨⟨_, rfl⟩, rfl⟩ S E
  replace S : St w a6 (Qv mm_4 (Zr (Qp [] (l0.take k)) a5) :: Qh a0 (.cells #[.map (some mm_4)] 145) :: H) := S
  refine J_k (QY (m := ((k + 1 : Nat) : Int)) E Y Y fun _ B => Qq B Y ?_)
  clear E a B; intro a E
  refine Jx ?_
  replace S := S.reM (L' := (Sl.encS (Qp [] (l0.take (k + 1))))) (congrArg Sl.encS (show Zr (Qp [] (l0.take k)) a5 = (Qp [] (l0.take (k + 1))) by first | rfl | (simp [Qp]; done) | (rw [List.take_add_one]; simp [*, Qe]; done)))
  exact ⟨k + 1, ⟨a6, (a3.trans b2), S, E.keep ⟨Y, Y, Y, Y, trivial⟩, by ((try clear S); (try clear E); first | assumption | omega | rfl | (simp; done) | (simp_all; done) | (simp [List.take_add_one, *]; done) | grind [List.take_add_one])⟩, by omega⟩
 ·refine Um (Qq E Y fun _ B => QS B (QV B Y Tryz.underlying116) fun _ C => Qx C Y ?_)
  clear E a B C; intro a E
  refine JQ ?_
  replace S := S.front1
  exact Qk E Tryz.results59 Y ⟨_, Y, a1, _, (a4.trans a3), ⟨_, _, _, Y, Y, (by (first | assumption | exact Qt _ _ List.nodup_nil | exact Qt _ _ (Qt _ _ List.nodup_nil))), (by (intro z; rw [List.take_of_length_le (by omega)]; simp [JP]))⟩, S⟩
theorem O_setOf {M : Hp} {v1 : Value} {l1 : List Int} (h1 : Zh M v1 l1)(hb : l1.length ≤ 1000000000) :
  Sp Tryz.prog (.func (.func 41) #[] #[]) M [.bool false, v1] [] (fun r M' C' => ∃ b_ m_ l_, C' = [Qh b_ (.cells #[.map (some m_)] 145), Qv m_ l_] ∧ r = .iface 116 (.pointer (some ⟨b_, 0, none⟩)) ∧ (l_.Nodup) ∧ (∀ z, z ∈ l_ ↔ z ∈ l1)) := by
 refine Qu Tryz.func41 Y Tryz.ntmps41 Y Tryz.call41 ?_
 intro a w M1 H hM1 S E
 replace h1 := h1.le hM1
 have b1 := h1.bound
 refine QF (Qx E Y fun _ B => VM (Qq B Y ?_))
 clear E a B; intro a E
 refine Jx ?_
 refine QL E Y Y ?_
 refine J_l (Qq E Y ?_)
 clear E a; intro a E
 refine QB (QI (p := []) E S Y Y Y (UO h1 (by first | assumption | omega)) lerf ?_)
 clear E a S; rintro a _ w a0 _ a2 ⟨a3, a1, l_4, rfl, rfl, a4, a5⟩ S E
 replace S : St w a0 (Qh a3 (.cells #[.map (some a1)] 145) :: Qv a1 l_4 :: H) := S
 refine Qx E Y ?_
 clear E a; intro a E
 refine JQ ?_
 replace S := S.front1.front1
 exact Qk E Tryz.results41 Y ⟨_, Y, a0, _, a2, ⟨_, _, _, Y, Y, (by assumption), (by assumption)⟩, S⟩
theorem S_new {M : Hp} {n0 : Nat} (hb0 : n0 ≤ 1000000000000) :
  Sp Tryz.prog (.func (.func 83) #[] #[]) M [.int .i64 ((n0 : Nat) : Int)] [] (fun r M' C' => ∃ p b m, r = .pointer (some ⟨p, 0, none⟩) ∧ C' = [Qh p (.cells #[.int .i32 0, .int .u32 0, .int .u32 0, .int .u32 0, .int .i32 0, .int .i32 0, .pointer (some ⟨b, 0, none⟩)] 144), Qh b (.cells #[.map (some m)] 145), Qv m []]) := by
 refine Qu Tryz.func83 Y Tryz.ntmps83 Y Tryz.call83 ?_
 intro a w M1 H hM1 S E
 refine QF (Qx E Y fun _ B => QZ (Qq B Y ?_))
 clear E a B; intro a E
 refine QB (QI (p := []) E S Y Y Y (vr (by first | assumption | omega)) lerf ?_)
 clear E a S; rintro a _ w a1 _ a2 ⟨a0, mm_4, rfl, rfl⟩ S E
 replace S : St w a1 (Qh a0 (.cells #[.map (some mm_4)] 145) :: Qv mm_4 ([] : List Int) :: H) := S
 refine ZP (u := .agg #[.int .i32 0, .int .u32 0, .int .u32 0, .int .u32 0, .int .i32 0, .int .i32 0, .pointer (some ⟨a0, 0, none⟩)]) (vs := [.pointer (some ⟨a0, 0, none⟩)]) E Y (fun w => VQ _ w) ?_
 clear E a; intro a E
 refine QB (Yz (cs := #[.int .i32 0, .int .u32 0, .int .u32 0, .int .u32 0, .int .i32 0, .int .i32 0, .pointer (some ⟨a0, 0, none⟩)]) E S Y Y Y ?_)
 clear E a S; rintro a w a3 E S
 refine Qx E Y ?_
 clear E a; intro a E
 refine JQ ?_
 replace S := S.front2.front2.front2
 exact Qk E Tryz.results83 Y ⟨_, Y, a1, _, a2, ⟨_, _, _, Y, Y⟩, S⟩
theorem S_Add {M : Hp} {p9 b9 m9 : Nat} {l9 : List Int} {x0 : Int} :
  Sp Tryz.prog (.func (.func 84) #[] #[]) M [.pointer (some ⟨p9, 0, none⟩), .int .i64 x0] [Qh p9 (.cells #[.int .i32 0, .int .u32 0, .int .u32 0, .int .u32 0, .int .i32 0, .int .i32 0, .pointer (some ⟨b9, 0, none⟩)] 144), Qh b9 (.cells #[.map (some m9)] 145), Qv m9 l9] (fun r M' C' => (∃ z, r = .bool z) ∧ C' = [Qh p9 (.cells #[.int .i32 0, .int .u32 0, .int .u32 0, .int .u32 0, .int .i32 0, .int .i32 0, .pointer (some ⟨b9, 0, none⟩)] 144), Qh b9 (.cells #[.map (some m9)] 145), Qv m9 (Zr l9 x0)]) := by
 refine Qu Tryz.func84 Y Tryz.ntmps84 Y Tryz.call84 ?_
 intro a w M1 H hM1 S E
 replace S : St w M1 (Qh p9 (.cells #[.int .i32 0, .int .u32 0, .int .u32 0, .int .u32 0, .int .i32 0, .int .i32 0, .pointer (some ⟨b9, 0, none⟩)] 144) :: Qh b9 (.cells #[.map (some m9)] 145) :: Qv m9 l9 :: _) := S
 refine QF (Qx E Y fun _ B => QZ (Qq B Y fun _ C => QS C (Qb C Y Y) fun _ D => Qa D Y (Qs _) ?_))
 clear E a B C D; intro a E
 replace S : St w M1 (LK p9 144 0 (.pointer (some ⟨b9, 0, none⟩)) :: _) := S
 refine QB (QI (p := [LK p9 144 0 (.pointer (some ⟨b9, 0, none⟩))]) E S Y Y Y (Vc Tryz.rwWLib (T := 144)) lerf ?_)
 clear E a S; rintro a _ w a2 _ a3 ⟨rfl, rfl⟩ S E
 replace S : St w a2 (Qh p9 (.cells #[.int .i32 1, .int .u32 0, .int .u32 0, .int .u32 0, .int .i32 (-1073741824), .int .i32 0, .pointer (some ⟨b9, 0, none⟩)] 144) :: Qh b9 (.cells #[.map (some m9)] 145) :: Qv m9 l9 :: H) := S
 refine QZ (Qq E Y fun _ B => QS B (Qb B Y Y) fun _ C => Qa C Y (QW _) fun _ D => JD D Y (Tryz.isAgg116 _) (QC (S.mem (.head _)) Y) fun _ F => QS F (Qb F Y Y) fun _ G => JD G Y (Tryz.isAgg145 _) (JV (S.mem (.tail _ (.head _)))) fun _ I => Qq I Y ?_)
 clear E a B C D F G I; intro a E
 replace S := S.front2
 refine QB (QI (p := [Qv m9 l9]) E S Y Y Y (U_Add) lerf ?_)
 clear E a S; rintro a _ w a0 _ a4 ⟨⟨_, rfl⟩, rfl⟩ S E
 replace S : St w a0 (Qv m9 (Zr l9 x0) :: Qh p9 (.cells #[.int .i32 1, .int .u32 0, .int .u32 0, .int .u32 0, .int .i32 (-1073741824), .int .i32 0, .pointer (some ⟨b9, 0, none⟩)] 144) :: Qh b9 (.cells #[.map (some m9)] 145) :: H) := S
 refine Qx E Y fun _ B => QZ (Qq B Y fun _ C => QS C (Qb C Y Y) fun _ D => Qa D Y (Qs _) ?_)
 clear E a B C D; intro a E
 replace S := S.front1
 replace S : St w a0 (yt p9 144 (.pointer (some ⟨b9, 0, none⟩)) :: _) := S
 refine QB (QI (p := [yt p9 144 (.pointer (some ⟨b9, 0, none⟩))]) E S Y Y Y (YQ Tryz.rwWLib (T := 144)) lerf ?_)
 clear E a S; rintro a _ w a1 _ a5 ⟨rfl, rfl⟩ S E
 replace S : St w a1 (Qh p9 (.cells #[.int .i32 0, .int .u32 0, .int .u32 0, .int .u32 0, .int .i32 0, .int .i32 0, .pointer (some ⟨b9, 0, none⟩)] 144) :: Qv m9 (Zr l9 x0) :: Qh b9 (.cells #[.map (some m9)] 145) :: H) := S
 refine QZ (JR 2 E Y ?_)
 clear E a; intro a E
 refine JQ ?_
 replace S := S.front1.front2.front2
 exact Qk E Tryz.results84 Y ⟨_, Y, a1, _, (a3.trans (a4.trans a5)), ⟨⟨_, Y⟩, Y⟩, S⟩
theorem OS_NewSet {M : Hp} {v0 : Value} {l0 : List Int} (h0 : Zh M v0 l0)(hb : l0.length ≤ 1000000000) :
  Sp Tryz.prog (.func (.func 58) #[] #[]) M [v0] [] (fun r M' C' => ∃ p_ b_ m_ l_, C' = [Qh p_ (.cells #[.int .i32 0, .int .u32 0, .int .u32 0, .int .u32 0, .int .i32 0, .int .i32 0, .pointer (some ⟨b_, 0, none⟩)] 144), Qh b_ (.cells #[.map (some m_)] 145), Qv m_ l_] ∧ r = .iface 114 (.pointer (some ⟨p_, 0, none⟩)) ∧ (l_.Nodup) ∧ (∀ z, z ∈ l_ ↔ z ∈ l0)) := by
 refine Qu Tryz.func58 Y Tryz.ntmps58 Y Tryz.call58 ?_
 intro a w M1 H hM1 S E
 replace h0 := h0.le hM1
 have b0 := h0.bound
 refine QF (Qx E Y fun _ B => QZ (Qq B Y fun _ C => Jl C Y JE h0.len ?_))
 clear E a B C; intro a E
 refine QB (QI (p := []) E S Y Y Y (S_new (by first | assumption | omega)) lerf ?_)
 clear E a S; rintro a _ w a3 _ a5 ⟨a1, a0, mm_4, rfl, rfl⟩ S E
 replace S : St w a3 (Qh a1 (.cells #[.int .i32 0, .int .u32 0, .int .u32 0, .int .u32 0, .int .i32 0, .int .i32 0, .pointer (some ⟨a0, 0, none⟩)] 144) :: Qh a0 (.cells #[.map (some mm_4)] 145) :: Qv mm_4 ([] : List Int) :: H) := S
 replace h0 := h0.le a5
 refine Qx E Y fun _ B => VM (Qq B Y fun _ C => Jl C Y JE h0.len fun _ D => Qq D Y ?_)
 clear E a B C D; intro a E
 refine VJ ?_
 replace S := S.front2
 replace S := S.reM (L' := (Sl.encS (Qp [] (l0.take 0)))) (congrArg Sl.encS (show ([] : List Int) = (Qp [] (l0.take 0)) by first | rfl | (simp [Qp]; done) | (rw [List.take_add_one]; simp [*, Qe]; done)))
 refine Jb (γ := Nat) (fun (k : Nat) a w => ∃ (a2 : Hp), Hp.le a3 a2 ∧ St w a2 (Qv mm_4 (Qp [] (l0.take k)) :: Qh a1 (.cells #[.int .i32 0, .int .u32 0, .int .u32 0, .int .u32 0, .int .i32 0, .int .i32 0, .pointer (some ⟨a0, 0, none⟩)] 144) :: Qh a0 (.cells #[.map (some mm_4)] 145) :: H) ∧ Env a 21 [] [(3, .pointer (some ⟨a1, 0, none⟩)), (9, v0), (10, .int .i64 (((l0).length : Nat) : Int)), (11, .int .i64 ((k : Nat) : Int))] ∧ (k ≤ (l0).length)) (fun k => ((l0).length) - k) 0 ⟨a3, lerf, S, E.keep ⟨Y, Y, Y, Y, trivial⟩, by ((try clear S); (try clear E); first | assumption | omega | rfl | (simp; done) | (simp_all; done) | (simp [List.take_add_one, *]; done) | grind [List.take_add_one])⟩ ?_
 try clear E
 try clear S
 try clear a
 try clear w
 rintro k a w ⟨a2, a4, S, E, b4⟩
 replace h0 := h0.le a4
 refine QF (ZG E Y Y ?_)
 clear E a; intro a E
 refine ZB ?_
 refine QJ E Y (fun a8 => ?_) (fun a8 => ?_)
 ·refine zC ?_
  obtain ⟨a6, a9⟩ : ∃ x, (l0)[k]? = some x := ⟨_, List.getElem?_eq_getElem (by first | omega | (simp; done) | (simp; omega) | (simp_all; omega))⟩
  obtain ⟨b5, b1, b2⟩ := h0.at a9
  refine Yh E Y Y JE b1 Y fun _ B => Qz B Y Tryz.isAgg3 S.imm b2 fun _ C => Qx C Y fun _ D => qd (JR 2 D Y ?_)
  clear E a B C D; intro a E
  replace S := S.front2.front2
  refine QB (QI (p := [Qh a1 (.cells #[.int .i32 0, .int .u32 0, .int .u32 0, .int .u32 0, .int .i32 0, .int .i32 0, .pointer (some ⟨a0, 0, none⟩)] 144), Qh a0 (.cells #[.map (some mm_4)] 145), Qv mm_4 (Qp [] (l0.take k))]) E S Y Y Y (S_Add) lerf ?_)
  clear E a S; rintro a _ w a7 _ b3 ⟨⟨_, rfl⟩, rfl⟩ S E
  replace S : St w a7 (Qh a1 (.cells #[.int .i32 0, .int .u32 0, .int .u32 0, .int .u32 0, .int .i32 0, .int .i32 0, .pointer (some ⟨a0, 0, none⟩)] 144) :: Qh a0 (.cells #[.map (some mm_4)] 145) :: Qv mm_4 (Zr (Qp [] (l0.take k)) a6) :: H) := S
  refine J_k (QY (m := ((k + 1 : Nat) : Int)) E Y Y fun _ B => Qq B Y ?_)
  clear E a B; intro a E
  refine Jx ?_
  replace S := S.front1.front1.front2
  replace S := S.reM (L' := (Sl.encS (Qp [] (l0.take (k + 1))))) (congrArg Sl.encS (show Zr (Qp [] (l0.take k)) a6 = (Qp [] (l0.take (k + 1))) by first | rfl | (simp [Qp]; done) | (rw [List.take_add_one]; simp [*, Qe]; done)))
  exact ⟨k + 1, ⟨a7, (a4.trans b3), S, E.keep ⟨Y, Y, Y, Y, trivial⟩, by ((try clear S); (try clear E); first | assumption | omega | rfl | (simp; done) | (simp_all; done) | (simp [List.take_add_one, *]; done) | grind [List.take_add_one])⟩, by omega⟩
 ·refine Um (Qq E Y fun _ B => QS B (QV B Y Tryz.underlying114) fun _ C => Qx C Y ?_)
  clear E a B C; intro a E
  refine JQ ?_
  replace S := S.front2.front2
  exact Qk E Tryz.results58 Y ⟨_, Y, a2, _, (a5.trans a4), ⟨_, _, _, _, Y, Y, (by (first | assumption | exact Qt _ _ List.nodup_nil | exact Qt _ _ (Qt _ _ List.nodup_nil))), (by (intro z; rw [List.take_of_length_le (by omega)]; simp [JP]))⟩, S⟩
theorem OS_setOf {M : Hp} {v1 : Value} {l1 : List Int} (h1 : Zh M v1 l1)(hb : l1.length ≤ 1000000000) :
  Sp Tryz.prog (.func (.func 41) #[] #[]) M [.bool true, v1] [] (fun r M' C' => ∃ p_ b_ m_ l_, C' = [Qh p_ (.cells #[.int .i32 0, .int .u32 0, .int .u32 0, .int .u32 0, .int .i32 0, .int .i32 0, .pointer (some ⟨b_, 0, none⟩)] 144), Qh b_ (.cells #[.map (some m_)] 145), Qv m_ l_] ∧ r = .iface 114 (.pointer (some ⟨p_, 0, none⟩)) ∧ (l_.Nodup) ∧ (∀ z, z ∈ l_ ↔ z ∈ l1)) := by
 refine Qu Tryz.func41 Y Tryz.ntmps41 Y Tryz.call41 ?_
 intro a w M1 H hM1 S E
 replace h1 := h1.le hM1
 have b1 := h1.bound
 refine QF (Qx E Y fun _ B => VM (Qq B Y ?_))
 clear E a B; intro a E
 refine Jx ?_
 refine Jj E Y Y ?_
 refine QF (Qq E Y ?_)
 clear E a; intro a E
 refine QB (QI (p := []) E S Y Y Y (OS_NewSet h1 (by first | assumption | omega)) lerf ?_)
 clear E a S; rintro a _ w a0 _ a3 ⟨a4, a1, a2, l_5, rfl, rfl, a5, a6⟩ S E
 replace S : St w a0 (Qh a4 (.cells #[.int .i32 0, .int .u32 0, .int .u32 0, .int .u32 0, .int .i32 0, .int .i32 0, .pointer (some ⟨a1, 0, none⟩)] 144) :: Qh a1 (.cells #[.map (some a2)] 145) :: Qv a2 l_5 :: H) := S
 refine Qx E Y ?_
 clear E a; intro a E
 refine WF ?_
 replace S := S.front2.front2.front2
 exact Qk E Tryz.results41 Y ⟨_, Y, a0, _, a3, ⟨_, _, _, _, Y, Y, (by assumption), (by assumption)⟩, S⟩
theorem zO {M : Hp} {x0 : Bool} {v1 : Value} {l1 : List Int} (h1 : Zh M v1 l1) (hb : l1.length ≤ 1000000000) :
  Sp Tryz.prog (.func (.func 41) #[] #[]) M [.bool x0, v1] [] (fun r M' C' => ∃ x : RG, C' = [YO KS x0 x] ∧ r = Zx KS x0 x ∧ x.2.2 = Qw l1) := by
 cases x0
 ·exact qe (O_setOf h1 hb) fun v M2 C ⟨b, m, l, h1, h2, h3, h4⟩ => ⟨[YO KS false (0, .pointer (some ⟨b, 0, none⟩), Qw l1)], ⟨_, Y, h2, Y⟩, fun w M H s => by subst h1; exact yH (K := KS) h3 (fun z => (h4 z).trans JU.symm) s⟩
 ·exact qe (OS_setOf h1 hb) fun v M2 C ⟨p, b, m, l, h1, h2, h3, h4⟩ => ⟨[YO KS true (p, .pointer (some ⟨b, 0, none⟩), Qw l1)], ⟨_, Y, h2, Y⟩, fun w M H s => by subst h1; exact jl (K := KS) h3 (fun z => (h4 z).trans JU.symm) s⟩
theorem qL {M : Hp} {x0 x1 : Int} (hn : x1 ≠ 0) (g1 : -9223372036854775808 ≤ x1 ∧ x1 ≤ 9223372036854775807) :
  Pu Tryz.prog (.func (.func 60) #[] #[]) M [.int .i64 x0, .int .i64 x1] (fun r M' => r = .int .i64 (x0 % x1)) := by
 refine Jt Tryz.func60 Y Tryz.ntmps60 Y Tryz.call60 ?_
 intro a w M1 H hM1 S E
 have ht := zF x0 x1 hn
 refine QF (Qx E Y fun _ B => QZ (JR 2 B Y fun _ C => e_rem C Y Y (by omega) fun _ D => Qx D Y fun _ F => VM (Qq F Y fun _ G => ZG G Y Y ?_)))
 clear E a B C D F G; intro a E
 refine Jx ?_
 refine QJ E Y (fun a0 => ?_) (fun a0 => ?_)
 ·refine J_p (Qq E Y fun _ B => ZG B Y Y ?_)
  clear E a B; intro a E
  refine Jx ?_
  refine QJ E Y (fun a1 => ?_) (fun a1 => ?_)
  ·refine QF (JR 2 E Y fun _ B => e_subx (m := (Int.tmod x0 x1) - x1) B Y Y fun _ C => Qx C Y ?_)
   clear E a B C; intro a E
   refine WF (qW ?_)
   exact Qk E Tryz.results60 Y ⟨_, Y, M1, lerf, (congrArg (Value.int .i64) (by omega)), S⟩
  ·refine J_l (JR 2 E Y fun _ B => QY (m := (Int.tmod x0 x1) + x1) B Y Y fun _ C => Qx C Y ?_)
   clear E a B C; intro a E
   refine WF ?_
   exact Qk E Tryz.results60 Y ⟨_, Y, M1, lerf, (congrArg (Value.int .i64) (by omega)), S⟩
 ·refine J_l (JR 2 E Y ?_)
  clear E a; intro a E
  refine JQ ?_
  exact Qk E Tryz.results60 Y ⟨_, Y, M1, lerf, (congrArg (Value.int .i64) (by omega)), S⟩
theorem O_Add {M : Hp} {m9 : Nat} {l9 : List Int} {x0 : Int} (hn9 : l9.Nodup)  :
  Sp Tryz.prog (.func (.func 86) #[] #[]) M [.map (some m9), .int .i64 x0] [Qv m9 l9] (fun r M' C' => ∃ l_, C' = [Qv m9 l_] ∧ r = .bool (decide (x0 ∉ l9)) ∧ (l_.Nodup) ∧ (∀ z, z ∈ l_ ↔ z ∈ l9 ∨ z = x0)) := by
 refine Qu Tryz.func86 Y Tryz.ntmps86 Y Tryz.call86 ?_
 intro a w M1 H hM1 S E
 replace S : St w M1 (Qv m9 l9 :: _) := S
 refine QF (Qx E Y fun _ B => QZ (Qq B Y fun _ C => QS C ((UL C S JJ Y).trans (by rw [Yg])) fun _ D => Qx D Y fun _ F => QZ (JR 2 F Y fun _ G => ZP (u := .agg #[]) (vs := []) G Y (fun w => qo  w) ?_)))
 clear E a B C D F G; intro a E
 refine Jq (We E S JJ Y Y Y ?_)
 clear E a S; rintro a w E S
 refine QZ (JR 2 E Y fun _ B => QS B ((UL B S JJ Y).trans (by rw [Yg])) fun _ C => WZ C Y Y fun _ D => Qx D Y ?_)
 clear E a B C D; intro a E
 refine JQ ?_
 exact Qk E Tryz.results86 Y ⟨_, Y, M1, _, lerf, ⟨_, Y, (cgB (decide_eq_decide.2 addS_ne)), (by (exact qR hn9 _)), (by (intro z; exact ya))⟩, S⟩
theorem OS_Add {M : Hp} {p9 b9 m9 : Nat} {l9 : List Int} {x0 : Int} (hn9 : l9.Nodup)  :
  Sp Tryz.prog (.func (.func 84) #[] #[]) M [.pointer (some ⟨p9, 0, none⟩), .int .i64 x0] [Qh p9 (.cells #[.int .i32 0, .int .u32 0, .int .u32 0, .int .u32 0, .int .i32 0, .int .i32 0, .pointer (some ⟨b9, 0, none⟩)] 144), Qh b9 (.cells #[.map (some m9)] 145), Qv m9 l9] (fun r M' C' => ∃ l_, C' = [Qh p9 (.cells #[.int .i32 0, .int .u32 0, .int .u32 0, .int .u32 0, .int .i32 0, .int .i32 0, .pointer (some ⟨b9, 0, none⟩)] 144), Qh b9 (.cells #[.map (some m9)] 145), Qv m9 l_] ∧ r = .bool (decide (x0 ∉ l9)) ∧ (l_.Nodup) ∧ (∀ z, z ∈ l_ ↔ z ∈ l9 ∨ z = x0)) := by
 refine Qu Tryz.func84 Y Tryz.ntmps84 Y Tryz.call84 ?_
 intro a w M1 H hM1 S E
 replace S : St w M1 (Qh p9 (.cells #[.int .i32 0, .int .u32 0, .int .u32 0, .int .u32 0, .int .i32 0, .int .i32 0, .pointer (some ⟨b9, 0, none⟩)] 144) :: Qh b9 (.cells #[.map (some m9)] 145) :: Qv m9 l9 :: _) := S
 refine QF (Qx E Y fun _ B => QZ (Qq B Y fun _ C => QS C (Qb C Y Y) fun _ D => Qa D Y (Qs _) ?_))
 clear E a B C D; intro a E
 replace S : St w M1 (LK p9 144 0 (.pointer (some ⟨b9, 0, none⟩)) :: _) := S
 refine QB (QI (p := [LK p9 144 0 (.pointer (some ⟨b9, 0, none⟩))]) E S Y Y Y (Vc Tryz.rwWLib (T := 144)) lerf ?_)
 clear E a S; rintro a _ w a2 _ a3 ⟨rfl, rfl⟩ S E
 replace S : St w a2 (Qh p9 (.cells #[.int .i32 1, .int .u32 0, .int .u32 0, .int .u32 0, .int .i32 (-1073741824), .int .i32 0, .pointer (some ⟨b9, 0, none⟩)] 144) :: Qh b9 (.cells #[.map (some m9)] 145) :: Qv m9 l9 :: H) := S
 refine QZ (Qq E Y fun _ B => QS B (Qb B Y Y) fun _ C => Qa C Y (QW _) fun _ D => JD D Y (Tryz.isAgg116 _) (QC (S.mem (.head _)) Y) fun _ F => QS F (Qb F Y Y) fun _ G => JD G Y (Tryz.isAgg145 _) (JV (S.mem (.tail _ (.head _)))) fun _ I => Qq I Y ?_)
 clear E a B C D F G I; intro a E
 replace S := S.front2
 refine QB (QI (p := [Qv m9 l9]) E S Y Y Y (O_Add (by first | assumption | exact List.nodup_nil | exact Qt _ _ (by assumption) | exact Qt _ _ List.nodup_nil)) lerf ?_)
 clear E a S; rintro a _ w a0 _ a4 ⟨l_3, rfl, rfl, a6, a7⟩ S E
 replace S : St w a0 (Qv m9 l_3 :: Qh p9 (.cells #[.int .i32 1, .int .u32 0, .int .u32 0, .int .u32 0, .int .i32 (-1073741824), .int .i32 0, .pointer (some ⟨b9, 0, none⟩)] 144) :: Qh b9 (.cells #[.map (some m9)] 145) :: H) := S
 refine Qx E Y fun _ B => QZ (Qq B Y fun _ C => QS C (Qb C Y Y) fun _ D => Qa D Y (Qs _) ?_)
 clear E a B C D; intro a E
 replace S := S.front1
 replace S : St w a0 (yt p9 144 (.pointer (some ⟨b9, 0, none⟩)) :: _) := S
 refine QB (QI (p := [yt p9 144 (.pointer (some ⟨b9, 0, none⟩))]) E S Y Y Y (YQ Tryz.rwWLib (T := 144)) lerf ?_)
 clear E a S; rintro a _ w a1 _ a5 ⟨rfl, rfl⟩ S E
 replace S : St w a1 (Qh p9 (.cells #[.int .i32 0, .int .u32 0, .int .u32 0, .int .u32 0, .int .i32 0, .int .i32 0, .pointer (some ⟨b9, 0, none⟩)] 144) :: Qv m9 l_3 :: Qh b9 (.cells #[.map (some m9)] 145) :: H) := S
 refine QZ (JR 2 E Y ?_)
 clear E a; intro a E
 refine JQ ?_
 replace S := S.front1.front2.front2
 exact Qk E Tryz.results84 Y ⟨_, Y, a1, _, (a3.trans (a4.trans a5)), ⟨_, Y, Y, (by assumption), (by assumption)⟩, S⟩
theorem reg_Add {M : Hp} {x0 : Bool} {v : Value} {t : List RG} {i : Nat} {x : RG} {a : Int} (hx : t[i]? = some x) :
  QD Tryz.prog (Zx KS x0 x) "Add" M [.int .i64 a] [QK KS x0 v t] (fun r _ C' => ∃ L D, C' = QK KS x0 v (t.set i (x.w L)) :: D ∧ (L = Qw (x.2.2 ++ [a]) ∧ r = .bool (decide (a ∉ x.2.2)) ∧ D = [])) := by
 refine YT (Φ := fun r l' D => (∀ z, z ∈ l' ↔ z ∈ x.2.2 ∨ z = a) ∧ r = .bool (decide (a ∉ x.2.2)) ∧ D = []) (YS hx ?_) fun r l' D ⟨h1, h2, h3⟩ => ⟨Qw (x.2.2 ++ [a]), fun z => (h1 z).trans (by simp only [JU, Zm, List.mem_append, List.mem_singleton, List.not_mem_nil]), Y, h2, h3⟩
 cases x0
 ·exact qF (fun b v w h => WT Y h) Tryz.call86 fun m q hn hq => by exact JT (O_Add hn) fun r M2 C ⟨l', h1, h2, h3, h4⟩ => ⟨l', [], h1, h3, fun z => (h4 z).trans (by rw [hq]), by rw [h2]; simp only [hq], rfl⟩
 ·exact yG (fun p w => WV p w) Tryz.call84 fun b m q hn hq => by exact JT (OS_Add hn) fun r M2 C ⟨l', h1, h2, h3, h4⟩ => ⟨l', [], h1, h3, fun z => (h4 z).trans (by rw [hq]), by rw [h2]; simp only [hq], rfl⟩
theorem yr {M : Hp} {v1 : Value} {l1 : List Int} (h1 : Zh M v1 l1){b9 m9 : Nat} {l9 : List Int} (hn9 : l9.Nodup) (hb : l9.length + l1.length ≤ 1000000000000) :
  Sp Tryz.prog (.func (.func 184) #[] #[]) M [.pointer (some ⟨b9, 0, none⟩), v1] [Qh b9 (.cells #[.map (some m9)] 145), Qv m9 l9] (fun r M' C' => ∃ l_, C' = [Qh b9 (.cells #[.map (some m9)] 145), Qv m9 l_] ∧ r = .int .i64 (((l_.length : Nat) : Int) - ((l9.length : Nat) : Int)) ∧ (l_.Nodup) ∧ (∀ z, z ∈ l_ ↔ z ∈ l9 ∨ z ∈ l1)) := by
 refine Qu Tryz.func184 Y Tryz.ntmps184 Y Tryz.call184 ?_
 intro a w M1 H hM1 S E
 replace S : St w M1 (Qh b9 (.cells #[.map (some m9)] 145) :: Qv m9 l9 :: _) := S
 replace h1 := h1.le hM1
 have b1 := h1.bound
 refine QF (Qx E Y fun _ B => QZ (Qq B Y fun _ C => QS C (Qb C Y Y) fun _ D => JD D Y (Tryz.isAgg145 _) (JV (S.mem (.head _))) ?_))
 clear E a B C D; intro a E
 replace S := S.front1
 refine QS E ((UL E S JJ Y).trans (by rw [Yg])) fun _ B => Qx B Y fun _ C => VM (Qq C Y fun _ D => Jl D Y JE h1.len fun _ F => Qq F Y ?_)
 clear E a B C D F; intro a E
 refine VJ ?_
 replace S := S.reM (L' := (Sl.encS (Qp l9 (l1.take 0)))) (congrArg Sl.encS (show l9 = Qp l9 (l1.take 0) by first | rfl | (simp [Qp]; done) | (rw [List.take_add_one]; simp [*, Qe]; done)))
 refine Jb (γ := Nat) (fun (k : Nat) a w => ∃ (a0 : Hp), Hp.le M1 a0 ∧ St w a0 (Qv m9 (Qp l9 (l1.take k)) :: Qh b9 (.cells #[.map (some m9)] 145) :: H) ∧ Env a 30 [] [(0, .pointer (some ⟨b9, 0, none⟩)), (5, .int .i64 (((l9).length : Nat) : Int)), (12, v1), (13, .int .i64 (((l1).length : Nat) : Int)), (14, .int .i64 ((k : Nat) : Int))] ∧ (k ≤ (l1).length)) (fun k => ((l1).length) - k) 0 ⟨M1, lerf, S, E.keep ⟨Y, Y, Y, Y, Y, trivial⟩, by ((try clear S); (try clear E); first | assumption | omega | rfl | (simp; done) | (simp_all; done) | (simp [List.take_add_one, *]; done) | grind [List.take_add_one])⟩ ?_
 try clear E
 try clear S
 try clear a
 try clear w
 rintro k a w ⟨a0, a1, S, E, a7⟩
 replace h1 := h1.le a1
 have ha1 := vO l1 l9 k
 refine QF (ZG E Y Y ?_)
 clear E a; intro a E
 refine ZB ?_
 refine QJ E Y (fun a2 => ?_) (fun a2 => ?_)
 ·refine zC ?_
  obtain ⟨a3, a4⟩ : ∃ x, (l1)[k]? = some x := ⟨_, List.getElem?_eq_getElem (by first | omega | (simp; done) | (simp; omega) | (simp_all; omega))⟩
  obtain ⟨a8, a5, a6⟩ := h1.at a4
  refine Yh E Y Y JE a5 Y fun _ B => Qz B Y Tryz.isAgg3 S.imm a6 fun _ C => Qx C Y fun _ D => qd (Qq D Y fun _ F => QS F (Qb F Y Y) fun _ G => JD G Y (Tryz.isAgg145 _) (JV (S.mem (.tail _ (.head _)))) fun _ I => Qq I Y fun _ J => ZP (u := .agg #[]) (vs := []) J Y (fun w => qo  w) ?_)
  clear E a B C D F G I J; intro a E
  refine Jq (We E S JJ Y Y Y ?_)
  clear E a S; rintro a w E S
  refine J_k (QY (m := ((k + 1 : Nat) : Int)) E Y Y fun _ B => Qq B Y ?_)
  clear E a B; intro a E
  refine Jx ?_
  replace S := S.reM (L' := (Sl.encS (Qp l9 (l1.take (k + 1))))) (congrArg Sl.encS (show Zr (Qp l9 (l1.take k)) a3 = Qp l9 (l1.take (k + 1)) by first | rfl | (simp [Qp]; done) | (rw [List.take_add_one]; simp [*, Qe]; done)))
  exact ⟨k + 1, ⟨a0, a1, S, E.keep ⟨Y, Y, Y, Y, Y, trivial⟩, by ((try clear S); (try clear E); first | assumption | omega | rfl | (simp; done) | (simp_all; done) | (simp [List.take_add_one, *]; done) | grind [List.take_add_one])⟩, by omega⟩
 ·refine Um (Qq E Y fun _ B => QS B (Qb B Y Y) fun _ C => JD C Y (Tryz.isAgg145 _) (JV (S.mem (.tail _ (.head _)))) fun _ D => QS D ((UL D S JJ Y).trans (by rw [Yg])) fun _ F => Qq F Y fun _ G => e_subx (m := (((Qp l9 (l1.take k)).length : Nat) : Int) - (((l9).length : Nat) : Int)) G Y Y fun _ I => Qx I Y ?_)
  clear E a B C D F G I; intro a E
  refine JQ ?_
  replace S := S.front1
  exact Qk E Tryz.results184 Y ⟨_, Y, a0, _, a1, ⟨_, Y, Y, (by (exact Qt _ _ hn9)), (by (intro z; rw [List.take_of_length_le (by omega)]; exact JP _ _ _))⟩, S⟩
theorem OS_Append {M : Hp} {v1 : Value} {l1 : List Int} (h1 : Zh M v1 l1){p9 b9 m9 : Nat} {l9 : List Int} (hn9 : l9.Nodup) (hb : l9.length + l1.length ≤ 1000000000000) :
  Sp Tryz.prog (.func (.func 160) #[] #[]) M [.pointer (some ⟨p9, 0, none⟩), v1] [Qh p9 (.cells #[.int .i32 0, .int .u32 0, .int .u32 0, .int .u32 0, .int .i32 0, .int .i32 0, .pointer (some ⟨b9, 0, none⟩)] 144), Qh b9 (.cells #[.map (some m9)] 145), Qv m9 l9] (fun r M' C' => ∃ l_, C' = [Qh p9 (.cells #[.int .i32 0, .int .u32 0, .int .u32 0, .int .u32 0, .int .i32 0, .int .i32 0, .pointer (some ⟨b9, 0, none⟩)] 144), Qh b9 (.cells #[.map (some m9)] 145), Qv m9 l_] ∧ r = .int .i64 (((l_.length : Nat) : Int) - ((l9.length : Nat) : Int)) ∧ (l_.Nodup) ∧ (∀ z, z ∈ l_ ↔ z ∈ l9 ∨ z ∈ l1)) := by
 refine Qu Tryz.func160 Y Tryz.ntmps160 Y Tryz.call160 ?_
 intro a w M1 H hM1 S E
 replace S : St w M1 (Qh p9 (.cells #[.int .i32 0, .int .u32 0, .int .u32 0, .int .u32 0, .int .i32 0, .int .i32 0, .pointer (some ⟨b9, 0, none⟩)] 144) :: Qh b9 (.cells #[.map (some m9)] 145) :: Qv m9 l9 :: _) := S
 replace h1 := h1.le hM1
 refine QF (Qx E Y fun _ B => QZ (Qq B Y fun _ C => QS C (Qb C Y Y) fun _ D => Qa D Y (Qs _) ?_))
 clear E a B C D; intro a E
 replace S : St w M1 (LK p9 144 0 (.pointer (some ⟨b9, 0, none⟩)) :: _) := S
 refine QB (QI (p := [LK p9 144 0 (.pointer (some ⟨b9, 0, none⟩))]) E S Y Y Y (Vc Tryz.rwWLib (T := 144)) lerf ?_)
 clear E a S; rintro a _ w a3 _ a0 ⟨rfl, rfl⟩ S E
 replace S : St w a3 (Qh p9 (.cells #[.int .i32 1, .int .u32 0, .int .u32 0, .int .u32 0, .int .i32 (-1073741824), .int .i32 0, .pointer (some ⟨b9, 0, none⟩)] 144) :: Qh b9 (.cells #[.map (some m9)] 145) :: Qv m9 l9 :: H) := S
 replace h1 := h1.le a0
 refine QZ (Qq E Y fun _ B => QS B (Qb B Y Y) fun _ C => Qa C Y (QW _) fun _ D => JD D Y (Tryz.isAgg116 _) (QC (S.mem (.head _)) Y) fun _ F => Qq F Y ?_)
 clear E a B C D F; intro a E
 replace S := S.front2.front2
 refine QB (QI (p := [Qh b9 (.cells #[.map (some m9)] 145), Qv m9 l9]) E S Y Y Y (yr h1 (by first | assumption | exact List.nodup_nil | exact Qt _ _ (by assumption) | exact Qt _ _ List.nodup_nil) (by first | assumption | omega | (simp only [List.length_nil]; omega))) lerf ?_)
 clear E a S; rintro a _ w a1 _ a4 ⟨l_3, rfl, rfl, a6, a7⟩ S E
 replace S : St w a1 (Qh b9 (.cells #[.map (some m9)] 145) :: Qv m9 l_3 :: Qh p9 (.cells #[.int .i32 1, .int .u32 0, .int .u32 0, .int .u32 0, .int .i32 (-1073741824), .int .i32 0, .pointer (some ⟨b9, 0, none⟩)] 144) :: H) := S
 refine Qx E Y fun _ B => QZ (Qq B Y fun _ C => QS C (Qb C Y Y) fun _ D => Qa D Y (Qs _) ?_)
 clear E a B C D; intro a E
 replace S := S.front2
 replace S : St w a1 (yt p9 144 (.pointer (some ⟨b9, 0, none⟩)) :: _) := S
 refine QB (QI (p := [yt p9 144 (.pointer (some ⟨b9, 0, none⟩))]) E S Y Y Y (YQ Tryz.rwWLib (T := 144)) lerf ?_)
 clear E a S; rintro a _ w a2 _ a5 ⟨rfl, rfl⟩ S E
 replace S : St w a2 (Qh p9 (.cells #[.int .i32 0, .int .u32 0, .int .u32 0, .int .u32 0, .int .i32 0, .int .i32 0, .pointer (some ⟨b9, 0, none⟩)] 144) :: Qh b9 (.cells #[.map (some m9)] 145) :: Qv m9 l_3 :: H) := S
 refine QZ (JR 2 E Y ?_)
 clear E a; intro a E
 refine JQ ?_
 replace S := S.front2.front2.front2
 exact Qk E Tryz.results160 Y ⟨_, Y, a2, _, (a0.trans (a4.trans a5)), ⟨_, Y, Y, (by assumption), (by assumption)⟩, S⟩
theorem yD {M : Hp} {x0 : Bool} {v : Value} {t : List RG} {i : Nat} {x : RG} {v1 : Value} {l1 : List Int} (hx : t[i]? = some x) (h1 : Zh M v1 l1) (hb1 : l1.length ≤ 1000000000) (hb : x.2.2.length ≤ 1000000000) :
  QD Tryz.prog (Zx KS x0 x) "Append" M [v1] [QK KS x0 v t] (fun r _ C' => ∃ L D, C' = QK KS x0 v (t.set i (x.w L)) :: D ∧ (L = Qw (x.2.2 ++ l1) ∧ r = .int .i64 (((Qw (x.2.2 ++ l1)).length : Nat) - ((Jd x.2.2 : Nat) : Int)) ∧ D = [])) := by
 refine YT (Φ := fun r l' D => (∀ z, z ∈ l' ↔ z ∈ x.2.2 ∨ z ∈ l1) ∧ r = .int .i64 (((Qw (x.2.2 ++ l1)).length : Nat) - ((Jd x.2.2 : Nat) : Int)) ∧ D = []) (YS hx ?_) fun r l' D ⟨h1, h2, h3⟩ => ⟨Qw (x.2.2 ++ l1), fun z => (h1 z).trans (by simp only [JU, Zm, List.mem_append, List.mem_singleton, List.not_mem_nil]), Y, h2, h3⟩
 cases x0
 ·exact WO (fun p w => GX p w) Tryz.call184 fun b m q hn hq => by have hql : q.length ≤ x.2.2.length := Qn hn fun z hz => (hq z).1 hz; exact JT (yr (h1.le lerf) hn (by omega)) fun r M2 C ⟨l', h1, h2, h3, h4⟩ => ⟨l', [], h1, h3, fun z => (h4 z).trans (by rw [hq]), by rw [h2, Wb hn hq, vd (c := x.2.2 ++ l1) h3 fun z => (h4 z).trans (by rw [hq, List.mem_append])], rfl⟩
 ·exact yG (fun p w => GZ p w) Tryz.call160 fun b m q hn hq => by have hql : q.length ≤ x.2.2.length := Qn hn fun z hz => (hq z).1 hz; exact JT (OS_Append (h1.le lerf) hn (by omega)) fun r M2 C ⟨l', h1, h2, h3, h4⟩ => ⟨l', [], h1, h3, fun z => (h4 z).trans (by rw [hq]), by rw [h2, Wb hn hq, vd (c := x.2.2 ++ l1) h3 fun z => (h4 z).trans (by rw [hq, List.mem_append])], rfl⟩
theorem O_Remove {M : Hp} {m9 : Nat} {l9 : List Int} {x0 : Int} (hn9 : l9.Nodup)  :
  Sp Tryz.prog (.func (.func 212) #[] #[]) M [.map (some m9), .int .i64 x0] [Qv m9 l9] (fun r M' C' => ∃ l_, C' = [Qv m9 l_] ∧ r = .tuple #[] ∧ (l_.Nodup) ∧ (∀ z, z ∈ l_ ↔ z ∈ l9 ∧ z ≠ x0)) := by
 refine Qu Tryz.func212 Y Tryz.ntmps212 Y Tryz.call212 ?_
 intro a w M1 H hM1 S E
 replace S : St w M1 (Qv m9 l9 :: _) := S
 refine Qr (JR 2 E Y ?_)
 clear E a; intro a E
 refine Jq (WB E S JJ Y Y ?_)
 clear E a S; rintro a w E S
 refine J_Ab ?_
 exact Ui E Tryz.results212 ⟨_, Y, M1, _, lerf, ⟨_, Y, Y, (by (exact hn9.filter _)), (by (intro z; simp))⟩, S⟩
theorem OS_Remove {M : Hp} {p9 b9 m9 : Nat} {l9 : List Int} {x0 : Int} (hn9 : l9.Nodup)  :
  Sp Tryz.prog (.func (.func 179) #[] #[]) M [.pointer (some ⟨p9, 0, none⟩), .int .i64 x0] [Qh p9 (.cells #[.int .i32 0, .int .u32 0, .int .u32 0, .int .u32 0, .int .i32 0, .int .i32 0, .pointer (some ⟨b9, 0, none⟩)] 144), Qh b9 (.cells #[.map (some m9)] 145), Qv m9 l9] (fun r M' C' => ∃ l_, C' = [Qh p9 (.cells #[.int .i32 0, .int .u32 0, .int .u32 0, .int .u32 0, .int .i32 0, .int .i32 0, .pointer (some ⟨b9, 0, none⟩)] 144), Qh b9 (.cells #[.map (some m9)] 145), Qv m9 l_] ∧ r = .tuple #[] ∧ (l_.Nodup) ∧ (∀ z, z ∈ l_ ↔ z ∈ l9 ∧ z ≠ x0)) := by
 refine Qu Tryz.func179 Y Tryz.ntmps179 Y Tryz.call179 ?_
 intro a w M1 H hM1 S E
 replace S : St w M1 (Qh p9 (.cells #[.int .i32 0, .int .u32 0, .int .u32 0, .int .u32 0, .int .i32 0, .int .i32 0, .pointer (some ⟨b9, 0, none⟩)] 144) :: Qh b9 (.cells #[.map (some m9)] 145) :: Qv m9 l9 :: _) := S
 refine QF (Qq E Y fun _ B => QS B (Qb B Y Y) fun _ C => Qa C Y (Qs _) ?_)
 clear E a B C; intro a E
 replace S : St w M1 (LK p9 144 0 (.pointer (some ⟨b9, 0, none⟩)) :: _) := S
 refine QB (QI (p := [LK p9 144 0 (.pointer (some ⟨b9, 0, none⟩))]) E S Y Y Y (Vc Tryz.rwWLib (T := 144)) lerf ?_)
 clear E a S; rintro a _ w a0 _ a2 ⟨rfl, rfl⟩ S E
 replace S : St w a0 (Qh p9 (.cells #[.int .i32 1, .int .u32 0, .int .u32 0, .int .u32 0, .int .i32 (-1073741824), .int .i32 0, .pointer (some ⟨b9, 0, none⟩)] 144) :: Qh b9 (.cells #[.map (some m9)] 145) :: Qv m9 l9 :: H) := S
 refine QZ (Qq E Y fun _ B => QS B (Qb B Y Y) fun _ C => Qa C Y (QW _) fun _ D => JD D Y (Tryz.isAgg116 _) (QC (S.mem (.head _)) Y) fun _ F => QS F (Qb F Y Y) fun _ G => JD G Y (Tryz.isAgg145 _) (JV (S.mem (.tail _ (.head _)))) fun _ I => Qq I Y ?_)
 clear E a B C D F G I; intro a E
 replace S := S.front2
 refine Jq (WB E S JJ Y Y ?_)
 clear E a S; rintro a w E S
 refine qd (Qq E Y fun _ B => QS B (Qb B Y Y) fun _ C => Qa C Y (Qs _) ?_)
 clear E a B C; intro a E
 replace S := S.front1
 replace S : St w a0 (yt p9 144 (.pointer (some ⟨b9, 0, none⟩)) :: _) := S
 refine QB (QI (p := [yt p9 144 (.pointer (some ⟨b9, 0, none⟩))]) E S Y Y Y (YQ Tryz.rwWLib (T := 144)) lerf ?_)
 clear E a S; rintro a _ w a1 _ a3 ⟨rfl, rfl⟩ S E
 replace S : St w a1 (Qh p9 (.cells #[.int .i32 0, .int .u32 0, .int .u32 0, .int .u32 0, .int .i32 0, .int .i32 0, .pointer (some ⟨b9, 0, none⟩)] 144) :: Qv m9 ((l9).filter (fun q_ => decide (q_ ≠ x0))) :: Qh b9 (.cells #[.map (some m9)] 145) :: H) := S
 refine J_Ab ?_
 replace S := S.front1.front2.front2
 exact Ui E Tryz.results179 ⟨_, Y, a1, _, (a2.trans a3), ⟨_, Y, Y, (by (exact hn9.filter _)), (by (intro z; simp))⟩, S⟩
theorem yC {M : Hp} {x0 : Bool} {v : Value} {t : List RG} {i : Nat} {x : RG} {a : Int} (hx : t[i]? = some x) :
  QD Tryz.prog (Zx KS x0 x) "Remove" M [.int .i64 a] [QK KS x0 v t] (fun r _ C' => ∃ L D, C' = QK KS x0 v (t.set i (x.w L)) :: D ∧ (L = Ji x.2.2 [a] ∧ r = .tuple #[] ∧ D = [])) := by
 refine YT (Φ := fun r l' D => (∀ z, z ∈ l' ↔ z ∈ x.2.2 ∧ z ≠ a) ∧ r = .tuple #[] ∧ D = []) (YS hx ?_) fun r l' D ⟨h1, h2, h3⟩ => ⟨Ji x.2.2 [a], fun z => (h1 z).trans (by simp only [JU, Zm, List.mem_append, List.mem_singleton, List.not_mem_nil]), Y, h2, h3⟩
 cases x0
 ·exact qF (fun b v w h => GW Y h) Tryz.call212 fun m q hn hq => by exact JT (O_Remove hn) fun r M2 C ⟨l', h1, h2, h3, h4⟩ => ⟨l', [], h1, h3, fun z => (h4 z).trans (by rw [hq]), h2, rfl⟩
 ·exact yG (fun p w => GY p w) Tryz.call179 fun b m q hn hq => by exact JT (OS_Remove hn) fun r M2 C ⟨l', h1, h2, h3, h4⟩ => ⟨l', [], h1, h3, fun z => (h4 z).trans (by rw [hq]), h2, rfl⟩
theorem GQ {M : Hp} {v1 : Value} {l1 : List Int} (h1 : Zh M v1 l1){m9 : Nat} {l9 : List Int} (hn9 : l9.Nodup)  :
  Sp Tryz.prog (.func (.func 200) #[] #[]) M [.map (some m9), v1] [Qv m9 l9] (fun r M' C' => ∃ l_, C' = [Qv m9 l_] ∧ r = .tuple #[] ∧ (l_.Nodup) ∧ (∀ z, z ∈ l_ ↔ z ∈ l9 ∧ z ∉ l1)) := by
 refine Qu Tryz.func200 Y Tryz.ntmps200 Y Tryz.call200 ?_
 intro a w M1 H hM1 S E
 replace S : St w M1 (Qv m9 l9 :: _) := S
 replace h1 := h1.le hM1
 have b1 := h1.bound
 refine QF (Qq E Y fun _ B => Jl B Y JE h1.len fun _ C => Qq C Y ?_)
 clear E a B C; intro a E
 refine VJ ?_
 replace S := S.reM (L' := (Sl.encS (l9.filter (fun z => decide (z ∉ l1.take 0))))) (congrArg Sl.encS (show l9 = l9.filter (fun z => decide (z ∉ l1.take 0)) by first | rfl | exact (YU _).symm | exact vg (by assumption)))
 refine Jb (γ := Nat) (fun (k : Nat) a w => ∃ (a0 : Hp), Hp.le M1 a0 ∧ St w a0 (Qv m9 (l9.filter (fun z => decide (z ∉ l1.take k))) :: H) ∧ Env a 15 [] [(0, .map (some m9)), (6, v1), (7, .int .i64 (((l1).length : Nat) : Int)), (8, .int .i64 ((k : Nat) : Int))] ∧ (k ≤ (l1).length)) (fun k => ((l1).length) - k) 0 ⟨M1, lerf, S, E.keep ⟨Y, Y, Y, Y, trivial⟩, by ((try clear S); (try clear E); first | assumption | omega | rfl | (simp; done) | (simp_all; done) | (simp [List.take_add_one, *]; done) | grind [List.take_add_one])⟩ ?_
 try clear E
 try clear S
 try clear a
 try clear w
 rintro k a w ⟨a0, a1, S, E, a7⟩
 replace h1 := h1.le a1
 refine QF (ZG E Y Y ?_)
 clear E a; intro a E
 refine ZB ?_
 refine QJ E Y (fun a2 => ?_) (fun a2 => ?_)
 ·refine zC ?_
  obtain ⟨a3, a4⟩ : ∃ x, (l1)[k]? = some x := ⟨_, List.getElem?_eq_getElem (by first | omega | (simp; done) | (simp; omega) | (simp_all; omega))⟩
  obtain ⟨a8, a5, a6⟩ := h1.at a4
  refine Yh E Y Y JE a5 Y fun _ B => Qz B Y Tryz.isAgg3 S.imm a6 fun _ C => Qx C Y fun _ D => qd (JR 2 D Y ?_)
  clear E a B C D; intro a E
  refine Jq (WB E S JJ Y Y ?_)
  clear E a S; rintro a w E S
  refine J_k (QY (m := ((k + 1 : Nat) : Int)) E Y Y fun _ B => Qq B Y ?_)
  clear E a B; intro a E
  refine Jx ?_
  replace S := S.reM (L' := (Sl.encS (l9.filter (fun z => decide (z ∉ l1.take (k + 1)))))) (congrArg Sl.encS (show (l9.filter (fun z => decide (z ∉ l1.take k))).filter (fun q_ => decide (q_ ≠ a3)) = l9.filter (fun z => decide (z ∉ l1.take (k + 1))) by first | rfl | exact (YU _).symm | exact vg (by assumption)))
  exact ⟨k + 1, ⟨a0, a1, S, E.keep ⟨Y, Y, Y, Y, trivial⟩, by ((try clear S); (try clear E); first | assumption | omega | rfl | (simp; done) | (simp_all; done) | (simp [List.take_add_one, *]; done) | grind [List.take_add_one])⟩, by omega⟩
 ·refine Yu (qk (qk (B_x (yu ?_))))
  exact Ui E Tryz.results200 ⟨_, Y, a0, _, a1, ⟨_, Y, Y, (by (exact hn9.filter _)), (by (intro z; rw [List.take_of_length_le (by omega)]; simp))⟩, S⟩
theorem jx {M : Hp} {v1 : Value} {l1 : List Int} (h1 : Zh M v1 l1){p9 b9 m9 : Nat} {l9 : List Int} (hn9 : l9.Nodup)  :
  Sp Tryz.prog (.func (.func 180) #[] #[]) M [.pointer (some ⟨p9, 0, none⟩), v1] [Qh p9 (.cells #[.int .i32 0, .int .u32 0, .int .u32 0, .int .u32 0, .int .i32 0, .int .i32 0, .pointer (some ⟨b9, 0, none⟩)] 144), Qh b9 (.cells #[.map (some m9)] 145), Qv m9 l9] (fun r M' C' => ∃ l_, C' = [Qh p9 (.cells #[.int .i32 0, .int .u32 0, .int .u32 0, .int .u32 0, .int .i32 0, .int .i32 0, .pointer (some ⟨b9, 0, none⟩)] 144), Qh b9 (.cells #[.map (some m9)] 145), Qv m9 l_] ∧ r = .tuple #[] ∧ (l_.Nodup) ∧ (∀ z, z ∈ l_ ↔ z ∈ l9 ∧ z ∉ l1)) := by
 refine Qu Tryz.func180 Y Tryz.ntmps180 Y Tryz.call180 ?_
 intro a w M1 H hM1 S E
 replace S : St w M1 (Qh p9 (.cells #[.int .i32 0, .int .u32 0, .int .u32 0, .int .u32 0, .int .i32 0, .int .i32 0, .pointer (some ⟨b9, 0, none⟩)] 144) :: Qh b9 (.cells #[.map (some m9)] 145) :: Qv m9 l9 :: _) := S
 replace h1 := h1.le hM1
 refine QF (Qq E Y fun _ B => QS B (Qb B Y Y) fun _ C => Qa C Y (Qs _) ?_)
 clear E a B C; intro a E
 replace S : St w M1 (LK p9 144 0 (.pointer (some ⟨b9, 0, none⟩)) :: _) := S
 refine QB (QI (p := [LK p9 144 0 (.pointer (some ⟨b9, 0, none⟩))]) E S Y Y Y (Vc Tryz.rwWLib (T := 144)) lerf ?_)
 clear E a S; rintro a _ w a3 _ a0 ⟨rfl, rfl⟩ S E
 replace S : St w a3 (Qh p9 (.cells #[.int .i32 1, .int .u32 0, .int .u32 0, .int .u32 0, .int .i32 (-1073741824), .int .i32 0, .pointer (some ⟨b9, 0, none⟩)] 144) :: Qh b9 (.cells #[.map (some m9)] 145) :: Qv m9 l9 :: H) := S
 replace h1 := h1.le a0
 refine QZ (Qq E Y fun _ B => QS B (Qb B Y Y) fun _ C => Qa C Y (QW _) fun _ D => JD D Y (Tryz.isAgg116 _) (QC (S.mem (.head _)) Y) fun _ F => QS F (Qb F Y Y) fun _ G => JD G Y (Tryz.isAgg145 _) (JV (S.mem (.tail _ (.head _)))) fun _ I => Qq I Y ?_)
 clear E a B C D F G I; intro a E
 replace S := S.front2
 refine QB (QI (p := [Qv m9 l9]) E S Y Y Y (GQ h1 (by first | assumption | exact List.nodup_nil | exact Qt _ _ (by assumption) | exact Qt _ _ List.nodup_nil)) lerf ?_)
 clear E a S; rintro a _ w a1 _ a4 ⟨l_3, rfl, rfl, a6, a7⟩ S E
 replace S : St w a1 (Qv m9 l_3 :: Qh p9 (.cells #[.int .i32 1, .int .u32 0, .int .u32 0, .int .u32 0, .int .i32 (-1073741824), .int .i32 0, .pointer (some ⟨b9, 0, none⟩)] 144) :: Qh b9 (.cells #[.map (some m9)] 145) :: H) := S
 refine qd (Qq E Y fun _ B => QS B (Qb B Y Y) fun _ C => Qa C Y (Qs _) ?_)
 clear E a B C; intro a E
 replace S := S.front1
 replace S : St w a1 (yt p9 144 (.pointer (some ⟨b9, 0, none⟩)) :: _) := S
 refine QB (QI (p := [yt p9 144 (.pointer (some ⟨b9, 0, none⟩))]) E S Y Y Y (YQ Tryz.rwWLib (T := 144)) lerf ?_)
 clear E a S; rintro a _ w a2 _ a5 ⟨rfl, rfl⟩ S E
 replace S : St w a2 (Qh p9 (.cells #[.int .i32 0, .int .u32 0, .int .u32 0, .int .u32 0, .int .i32 0, .int .i32 0, .pointer (some ⟨b9, 0, none⟩)] 144) :: Qv m9 l_3 :: Qh b9 (.cells #[.map (some m9)] 145) :: H) := S
 refine J_Ab ?_
 replace S := S.front1.front2.front2
 exact Ui E Tryz.results180 ⟨_, Y, a2, _, (a0.trans (a4.trans a5)), ⟨_, Y, Y, (by assumption), (by assumption)⟩, S⟩
theorem zl {M : Hp} {x0 : Bool} {v : Value} {t : List RG} {i : Nat} {x : RG} {v1 : Value} {l1 : List Int} (hx : t[i]? = some x) (h1 : Zh M v1 l1) :
  QD Tryz.prog (Zx KS x0 x) "RemoveAll" M [v1] [QK KS x0 v t] (fun r _ C' => ∃ L D, C' = QK KS x0 v (t.set i (x.w L)) :: D ∧ (L = Ji x.2.2 l1 ∧ r = .tuple #[] ∧ D = [])) := by
 refine YT (Φ := fun r l' D => (∀ z, z ∈ l' ↔ z ∈ x.2.2 ∧ z ∉ l1) ∧ r = .tuple #[] ∧ D = []) (YS hx ?_) fun r l' D ⟨h1, h2, h3⟩ => ⟨Ji x.2.2 l1, fun z => (h1 z).trans (by simp only [JU, Zm, List.mem_append, List.mem_singleton, List.not_mem_nil]), Y, h2, h3⟩
 cases x0
 ·exact qF (fun b v w h => Wy Y h) Tryz.call200 fun m q hn hq => by exact JT (GQ h1 hn) fun r M2 C ⟨l', h1, h2, h3, h4⟩ => ⟨l', [], h1, h3, fun z => (h4 z).trans (by rw [hq]), h2, rfl⟩
 ·exact yG (fun p w => Wz p w) Tryz.call180 fun b m q hn hq => by exact JT (jx h1 hn) fun r M2 C ⟨l', h1, h2, h3, h4⟩ => ⟨l', [], h1, h3, fun z => (h4 z).trans (by rw [hq]), h2, rfl⟩
theorem vx {M : Hp} {b9 m9 : Nat} {l9 : List Int} (hn9 : l9.Nodup)  :
  Sp Tryz.prog (.func (.func 187) #[] #[]) M [.pointer (some ⟨b9, 0, none⟩)] [Qh b9 (.cells #[.map (some m9)] 145), Qv m9 l9] (fun r M' C' => C' = [Qh b9 (.cells #[.map (some m9)] 145), Qv m9 ([] : List Int)] ∧ r = .tuple #[]) := by
 refine Qu Tryz.func187 Y Tryz.ntmps187 Y Tryz.call187 ?_
 intro a w M1 H hM1 S E
 replace S : St w M1 (Qh b9 (.cells #[.map (some m9)] 145) :: Qv m9 l9 :: _) := S
 refine QF (Qq E Y fun _ B => QS B (Qb B Y Y) fun _ C => JD C Y (Tryz.isAgg145 _) (JV (S.mem (.head _))) ?_)
 clear E a B C; intro a E
 replace S := S.front1
 refine QB (Gd E S Y JJ Y ?_)
 clear E a S; rintro a w a2 E S
 replace S : St w M1 (qn m9 a2 (Sl.encS l9) ([] : List Int) none :: _) := S
 refine VJ ?_
 replace S := S.reW (L' := (Sl.encS (l9.filter (fun z => decide (z ∉ []))))) (D' := []) (congrArg Sl.encS (show l9 = l9.filter (fun z => decide (z ∉ [])) by first | rfl | exact (YU _).symm | exact YK _ _ _)) (show ([] : List Int) = [] by first | rfl | (simp; done))
 refine Jb (γ := List Int) (fun (p : List Int) a w => ∃ (a1 : Hp), Hp.le M1 a1 ∧ St w a1 (qn m9 a2 (Sl.encS (l9.filter (fun z => decide (z ∉ p)))) p none :: Qh b9 (.cells #[.map (some m9)] 145) :: H) ∧ Env a 15 [] [(0, .pointer (some ⟨b9, 0, none⟩)), (6, .pointer (some ⟨a2, 0, none⟩))] ∧ (p.Nodup) ∧ (∀ z ∈ p, z ∈ l9)) (fun p => l9.length - p.length) [] ⟨M1, lerf, S, E.keep ⟨Y, Y, trivial⟩, (by simp), (by simp)⟩ ?_
 try clear E
 try clear S
 try clear a
 try clear w
 rintro p a w ⟨a1, a3, S, E, a4, a5⟩
 refine QF ?_
 refine QB (Ge E S Y Y ?_ ?_)
 ·clear E a S; rintro a E hpm_3 S
  refine Qj E Y Y ?_
  clear E a; intro a E
  refine ZB ?_
  refine QL E Y Y ?_
  refine Yu (qk (qk (B_x (yu ?_))))
  replace S := S.reM (L' := (Sl.encS ([] : List Int))) (congrArg Sl.encS (show l9.filter (fun z => decide (z ∉ p)) = ([] : List Int) by exact cl_empty (by assumption)))
  replace S := S.front1
  exact Ui E Tryz.results187 ⟨_, Y, a1, _, a3, ⟨Y, Y⟩, S⟩
 ·clear E a S w; rintro a w a0 E hk_5 hk_5n S
  refine Qj E Y Y ?_
  clear E a; intro a E
  refine ZB ?_
  refine Jj E Y Y ?_
  refine Ja (JG (Jw (QF (Gb E S Y fun _ B => Qj B Y Y fun _ C => Qx C Y fun _ D => qd (Qq D Y fun _ F => QS F (Qb F Y Y) fun _ G => JD G Y (Tryz.isAgg145 _) (JV (S.mem (.tail _ (.head _)))) fun _ I => Qq I Y ?_)))))
  clear E a B C D F G I; intro a E
  refine Jq (VK E S JJ Y Y ?_)
  clear E a S; rintro a w E S
  refine QQ (ZN (JG ?_))
  replace S := S.reW (L' := (Sl.encS (l9.filter (fun z => decide (z ∉ (p ++ [a0])))))) (D' := (p ++ [a0])) (congrArg Sl.encS (show (l9.filter (fun z => decide (z ∉ p))).filter (fun q_ => decide (q_ ≠ a0)) = l9.filter (fun z => decide (z ∉ (p ++ [a0]))) by first | rfl | exact (YU _).symm | exact YK _ _ _)) (show p ++ [a0] = (p ++ [a0]) by first | rfl | (simp; done))
  exact ⟨((p ++ [a0])), ⟨a1, a3, S, E.keep ⟨Y, Y, trivial⟩, (by exact qg (l := l9) (by assumption) (by assumption)), (by exact jh (by assumption) (by assumption))⟩, (by have hlt := jS hn9 (by assumption) (by assumption) (by assumption); simp; omega)⟩
theorem OS_Clear {M : Hp} {p9 b9 m9 : Nat} {l9 : List Int} (hn9 : l9.Nodup)  :
  Sp Tryz.prog (.func (.func 162) #[] #[]) M [.pointer (some ⟨p9, 0, none⟩)] [Qh p9 (.cells #[.int .i32 0, .int .u32 0, .int .u32 0, .int .u32 0, .int .i32 0, .int .i32 0, .pointer (some ⟨b9, 0, none⟩)] 144), Qh b9 (.cells #[.map (some m9)] 145), Qv m9 l9] (fun r M' C' => C' = [Qh p9 (.cells #[.int .i32 0, .int .u32 0, .int .u32 0, .int .u32 0, .int .i32 0, .int .i32 0, .pointer (some ⟨b9, 0, none⟩)] 144), Qh b9 (.cells #[.map (some m9)] 145), Qv m9 ([] : List Int)] ∧ r = .tuple #[]) := by
 refine Qu Tryz.func162 Y Tryz.ntmps162 Y Tryz.call162 ?_
 intro a w M1 H hM1 S E
 replace S : St w M1 (Qh p9 (.cells #[.int .i32 0, .int .u32 0, .int .u32 0, .int .u32 0, .int .i32 0, .int .i32 0, .pointer (some ⟨b9, 0, none⟩)] 144) :: Qh b9 (.cells #[.map (some m9)] 145) :: Qv m9 l9 :: _) := S
 refine QF (Qq E Y fun _ B => QS B (Qb B Y Y) fun _ C => Qa C Y (Qs _) ?_)
 clear E a B C; intro a E
 replace S : St w M1 (LK p9 144 0 (.pointer (some ⟨b9, 0, none⟩)) :: _) := S
 refine QB (QI (p := [LK p9 144 0 (.pointer (some ⟨b9, 0, none⟩))]) E S Y Y Y (Vc Tryz.rwWLib (T := 144)) lerf ?_)
 clear E a S; rintro a _ w a2 _ a3 ⟨rfl, rfl⟩ S E
 replace S : St w a2 (Qh p9 (.cells #[.int .i32 1, .int .u32 0, .int .u32 0, .int .u32 0, .int .i32 (-1073741824), .int .i32 0, .pointer (some ⟨b9, 0, none⟩)] 144) :: Qh b9 (.cells #[.map (some m9)] 145) :: Qv m9 l9 :: H) := S
 refine QZ (Qq E Y fun _ B => QS B (Qb B Y Y) fun _ C => Qa C Y (QW _) fun _ D => JD D Y (Tryz.isAgg116 _) (QC (S.mem (.head _)) Y) ?_)
 clear E a B C D; intro a E
 replace S := S.front2.front2
 refine QB (QI (p := [Qh b9 (.cells #[.map (some m9)] 145), Qv m9 l9]) E S Y Y Y (vx (by first | assumption | exact List.nodup_nil | exact Qt _ _ (by assumption) | exact Qt _ _ List.nodup_nil)) lerf ?_)
 clear E a S; rintro a _ w a0 _ a4 ⟨rfl, rfl⟩ S E
 replace S : St w a0 (Qh b9 (.cells #[.map (some m9)] 145) :: Qv m9 ([] : List Int) :: Qh p9 (.cells #[.int .i32 1, .int .u32 0, .int .u32 0, .int .u32 0, .int .i32 (-1073741824), .int .i32 0, .pointer (some ⟨b9, 0, none⟩)] 144) :: H) := S
 refine qd (Qq E Y fun _ B => QS B (Qb B Y Y) fun _ C => Qa C Y (Qs _) ?_)
 clear E a B C; intro a E
 replace S := S.front2
 replace S : St w a0 (yt p9 144 (.pointer (some ⟨b9, 0, none⟩)) :: _) := S
 refine QB (QI (p := [yt p9 144 (.pointer (some ⟨b9, 0, none⟩))]) E S Y Y Y (YQ Tryz.rwWLib (T := 144)) lerf ?_)
 clear E a S; rintro a _ w a1 _ a5 ⟨rfl, rfl⟩ S E
 replace S : St w a1 (Qh p9 (.cells #[.int .i32 0, .int .u32 0, .int .u32 0, .int .u32 0, .int .i32 0, .int .i32 0, .pointer (some ⟨b9, 0, none⟩)] 144) :: Qh b9 (.cells #[.map (some m9)] 145) :: Qv m9 ([] : List Int) :: H) := S
 refine J_Ab ?_
 replace S := S.front2.front2.front2
 exact Ui E Tryz.results162 ⟨_, Y, a1, _, (a3.trans (a4.trans a5)), ⟨Y, Y⟩, S⟩
theorem vF {M : Hp} {x0 : Bool} {v : Value} {t : List RG} {i : Nat} {x : RG} (hx : t[i]? = some x) :
  QD Tryz.prog (Zx KS x0 x) "Clear" M [] [QK KS x0 v t] (fun r _ C' => ∃ L D, C' = QK KS x0 v (t.set i (x.w L)) :: D ∧ (L = [] ∧ r = .tuple #[] ∧ D = [])) := by
 refine YT (Φ := fun r l' D => (∀ z, z ∈ l' ↔ False) ∧ r = .tuple #[] ∧ D = []) (YS hx ?_) fun r l' D ⟨h1, h2, h3⟩ => ⟨[], fun z => (h1 z).trans (by simp only [JU, Zm, List.mem_append, List.mem_singleton, List.not_mem_nil]), Y, h2, h3⟩
 cases x0
 ·exact WO (fun p w => qH p w) Tryz.call187 fun b m q hn hq => JT (vx hn) fun r M2 C ⟨h1, h2⟩ => ⟨[], [], h1, List.nodup_nil, fun z => by simp, h2, rfl⟩
 ·exact yG (fun p w => qJ p w) Tryz.call162 fun b m q hn hq => JT (OS_Clear hn) fun r M2 C ⟨h1, h2⟩ => ⟨[], [], h1, List.nodup_nil, fun z => by simp, h2, rfl⟩
theorem QR {M : Hp} {v0 : Value} {c0 : List Int} (h0 : JH 145 M v0 c0) (b0 : c0.length ≤ 1000000000)  :
  Pu Tryz.prog (.func (.func 205) #[] #[]) M [v0] (fun r M' => r = .int .i64 ((Jd c0 : Nat) : Int)) := by
 refine Jt Tryz.func205 Y Tryz.ntmps205 Y Tryz.call205 ?_
 intro a w M1 H hM1 S E
 replace h0 := h0.le hM1
 refine QF (Qx E Y fun _ B => QZ (Qq B Y ?_))
 clear E a B; intro a E
 have hset := h0
 obtain ⟨sb0, sm0, sq0, se0, shb0, shm0, shn0, shq0⟩ := hset
 have shq0l : sq0.length ≤ c0.length := Qn shn0 fun z hz => (shq0 z).1 hz
 refine QS E (Qb E Y se0) fun _ B => zw B Y (QG B (congrArg some se0) Tryz.isAgg145 S.imm (Jn shb0)) Y fun _ C => QS C ((zb S.imm shm0 C JJ Y).trans (by rw [Yg])) fun _ D => Qx D Y ?_
 clear E a B C D; intro a E
 refine JQ ?_
 exact Qk E Tryz.results205 Y ⟨_, Y, M1, lerf, (congrArg (Value.int .i64) (by (congr 1; exact Wb (by assumption) (by assumption)))), S⟩
theorem GP {M : Hp} {b9 m9 : Nat} {l9 : List Int} {x0 : Int} :
  Sp Tryz.prog (.func (.func 206) #[] #[]) M [.pointer (some ⟨b9, 0, none⟩), .int .i64 x0] [Qh b9 (.cells #[.map (some m9)] 145), Qv m9 l9] (fun r M' C' => r = .tuple #[] ∧ C' = [Qh b9 (.cells #[.map (some m9)] 145), Qv m9 (Zr l9 x0)]) := by
 refine Qu Tryz.func206 Y Tryz.ntmps206 Y Tryz.call206 ?_
 intro a w M1 H hM1 S E
 replace S : St w M1 (Qh b9 (.cells #[.map (some m9)] 145) :: Qv m9 l9 :: _) := S
 refine Qr (Qq E Y fun _ B => QS B (Qb B Y Y) fun _ C => JD C Y (Tryz.isAgg145 _) (JV (S.mem (.head _))) fun _ D => Qq D Y fun _ F => ZP (u := .agg #[]) (vs := []) F Y (fun w => qo  w) ?_)
 clear E a B C D F; intro a E
 replace S := S.front1
 refine Jq (We E S JJ Y Y Y ?_)
 clear E a S; rintro a w E S
 refine J_Ab ?_
 replace S := S.front1
 exact Ui E Tryz.results206 ⟨_, Y, M1, _, lerf, ⟨Y, Y⟩, S⟩
theorem vw {M : Hp} {v0 : Value} {c0 : List Int} (h0 : JH 145 M v0 c0) (b0 : c0.length ≤ 1000000000)  :
  Sp Tryz.prog (.func (.func 188) #[] #[]) M [v0] [] (fun r M' C' => ∃ b_ m_ l_, C' = [Qh b_ (.cells #[.map (some m_)] 145), Qv m_ l_] ∧ r = .iface 116 (.pointer (some ⟨b_, 0, none⟩)) ∧ (l_.Nodup) ∧ (∀ z, z ∈ l_ ↔ z ∈ c0)) := by
 refine Qu Tryz.func188 Y Tryz.ntmps188 Y Tryz.call188 ?_
 intro a w M1 H hM1 S E
 replace h0 := h0.le hM1
 have hcl0 := JY c0
 refine QF (Qx E Y fun _ B => QZ (Qq B Y ?_))
 clear E a B; intro a E
 refine QB (Jm E S Y Y Y (QR h0 (by first | assumption | omega)) lerf ?_)
 clear E a S; rintro a _ w b2 a7 rfl S E
 replace h0 := h0.le a7
 refine QB (QI (p := []) E S Y Y Y (vr (by first | assumption | omega)) lerf ?_)
 clear E a S; rintro a _ w a2 _ a8 ⟨a1, mm_5, rfl, rfl⟩ S E
 replace S : St w a2 (Qh a1 (.cells #[.map (some mm_5)] 145) :: Qv mm_5 ([] : List Int) :: H) := S
 replace h0 := h0.le a8
 refine Qx E Y fun _ B => VM (Qq B Y ?_)
 clear E a B; intro a E
 have hset := h0
 obtain ⟨sb0, sm0, sq0, se0, shb0, shm0, shn0, shq0⟩ := hset
 have shq0l : sq0.length ≤ c0.length := Qn shn0 fun z hz => (shq0 z).1 hz
 refine QS E (Qb E Y se0) fun _ B => zw B Y (QG B (congrArg some se0) Tryz.isAgg145 S.imm (Jn shb0)) Y ?_
 clear E a B; intro a E
 refine QB (Zz E S Y JJ shm0 Y ?_)
 clear E a S; rintro a w a3 es_7 ck_8 E a4 S
 replace S : St w a2 (Ys sm0 es_7 ck_8 a3 (Sl.encS ([] : List Int)) :: _) := S
 refine VJ ?_
 replace S := S.front2.front1.front1
 replace S := S.reM (L' := (Sl.encS (Qp [] []))) (congrArg Sl.encS (show ([] : List Int) = (Qp [] []) by (first | rfl | (simp [Qe]; done) | (simp [Qe, List.filter_append, *]; done))))
 replace S := S.front1
 replace S := S.reIt (p' := (Sl.encS [])) (congrArg Sl.encS (show ([] : List Int) = [] by (first | rfl | (simp [Qe]; done) | (simp [Qe, List.filter_append, *]; done))))
 refine Jb (γ := List Int) (fun (p : List Int) a w => ∃ (a5 : Hp), Hp.le a2 a5 ∧ St w a5 (Ys sm0 es_7 ck_8 a3 (Sl.encS p) :: Qv mm_5 (Qp [] p) :: Qh a1 (.cells #[.map (some mm_5)] 145) :: H) ∧ Env a 21 [] [(3, .pointer (some ⟨a1, 0, none⟩)), (11, .pointer (some ⟨a3, 0, none⟩))] ∧ (p.Nodup) ∧ (∀ z ∈ p, z ∈ sq0) ∧ (p.length ≤ sq0.length)) (fun p => sq0.length - p.length) [] ⟨a2, lerf, S, E.keep ⟨Y, Y, trivial⟩, (by simp), (by simp), (by simp)⟩ ?_
 try clear E
 try clear S
 try clear a
 try clear w
 rintro p a w ⟨a5, a6, S, E, b3, b4, b5⟩
 replace a4 := a4.le a6
 refine QF ?_
 refine QB (ZK E S Y a4 Y (by assumption) (by assumption) ?_ ?_)
 ·clear E a S; rintro a E hpm_11 S
  refine Qj E Y Y ?_
  clear E a; intro a E
  refine ZB ?_
  refine QL E Y Y ?_
  refine Um (Qq E Y fun _ B => QS B (QV B Y Tryz.underlying116) fun _ C => Qx C Y ?_)
  clear E a B C; intro a E
  refine JQ ?_
  replace S := S.drop.front1
  exact Qk E Tryz.results188 Y ⟨_, Y, a5, _, (a7.trans (a8.trans a6)), ⟨_, _, _, Y, Y, (by (first | assumption | exact Qt _ _ List.nodup_nil | exact Qt _ _ (Qt _ _ List.nodup_nil))), (by (intro z; have ep := (List.Perm.mem_iff (a := z) (show p.Perm sq0 by first | assumption | (exact List.Perm.symm (by assumption)))).trans (shq0 z); simp only [JP, List.not_mem_nil, false_or, List.mem_append, List.mem_filter, decide_eq_true_eq, List.nil_append]; simp only [ep]))⟩, S⟩
 ·clear E a S w; rintro a w a0 E hk_13 hk_13n hk_13l S
  refine Qj E Y Y ?_
  clear E a; intro a E
  refine ZB ?_
  refine Jj E Y Y ?_
  refine Ja (JG (Jw (QF (Zy (k := a0) (v := .agg #[]) E (by have S1 := S; simp only [Sl.encS, List.map_append, List.map_cons, List.map_nil] at S1; exact S1) a4 Y fun _ B => Qj B Y Y fun _ C => Qx C Y fun _ D => qd (JR 2 D Y ?_)))))
  clear E a B C D; intro a E
  replace S := S.front1.front2
  refine QB (QI (p := [Qh a1 (.cells #[.map (some mm_5)] 145), Qv mm_5 (Qp [] p)]) E S Y Y Y (GP) lerf ?_)
  clear E a S; rintro a _ w a9 _ b1 ⟨rfl, rfl⟩ S E
  replace S : St w a9 (Qh a1 (.cells #[.map (some mm_5)] 145) :: Qv mm_5 (Zr (Qp [] p) a0) :: Ys sm0 es_7 ck_8 a3 (Sl.encS (p ++ [a0])) :: H) := S
  refine QQ (ZN (JG ?_))
  replace S := S.front1.front2.front1
  replace S := S.reM (L' := (Sl.encS (Qp [] (p ++ [a0])))) (congrArg Sl.encS (show Zr (Qp [] p) a0 = (Qp [] (p ++ [a0])) by (first | rfl | (simp [Qe]; done) | (simp [Qe, List.filter_append, *]; done))))
  replace S := S.front1
  replace S := S.reIt (p' := (Sl.encS (p ++ [a0]))) (congrArg Sl.encS (show p ++ [a0] = (p ++ [a0]) by (first | rfl | (simp [Qe]; done) | (simp [Qe, List.filter_append, *]; done))))
  exact ⟨(p ++ [a0]), ⟨a9, (a6.trans b1), S, E.keep ⟨Y, Y, trivial⟩, (by exact Yn (by assumption) (by assumption)), (by exact Yt (by assumption) (by assumption)), (by simp; omega)⟩, (by simp; omega)⟩
theorem OS_Clone {M : Hp} {p0 : Nat} {v0 : Value} {c0 : List Int} (h0 : JH 145 M v0 c0) (b0 : c0.length ≤ 1000000000)  :
  Sp Tryz.prog (.func (.func 163) #[] #[]) M [.pointer (some ⟨p0, 0, none⟩)] [Qh p0 (.cells #[.int .i32 0, .int .u32 0, .int .u32 0, .int .u32 0, .int .i32 0, .int .i32 0, v0] 144)] (fun r M' C' => ∃ p_ b_ m_ l_, C' = [Qh p0 (.cells #[.int .i32 0, .int .u32 0, .int .u32 0, .int .u32 0, .int .i32 0, .int .i32 0, v0] 144), Qh p_ (.cells #[.int .i32 0, .int .u32 0, .int .u32 0, .int .u32 0, .int .i32 0, .int .i32 0, .pointer (some ⟨b_, 0, none⟩)] 144), Qh b_ (.cells #[.map (some m_)] 145), Qv m_ l_] ∧ r = .iface 114 (.pointer (some ⟨p_, 0, none⟩)) ∧ (l_.Nodup) ∧ (∀ z, z ∈ l_ ↔ z ∈ c0)) := by
 refine Qu Tryz.func163 Y Tryz.ntmps163 Y Tryz.call163 ?_
 intro a w M1 H hM1 S E
 replace S : St w M1 (Qh p0 (.cells #[.int .i32 0, .int .u32 0, .int .u32 0, .int .u32 0, .int .i32 0, .int .i32 0, v0] 144) :: _) := S
 replace h0 := h0.le hM1
 have hset := h0
 obtain ⟨sb0, sm0, sq0, se0, shb0, shm0, shn0, shq0⟩ := hset
 have shq0l : sq0.length ≤ c0.length := Qn shn0 fun z hz => (shq0 z).1 hz
 refine QF (Qx E Y fun _ B => QZ (Qq B Y fun _ C => QS C (Qb C Y Y) fun _ D => Qa D Y (Qs _) ?_))
 clear E a B C D; intro a E
 replace S : St w M1 (LK p0 144 0 v0 :: _) := S
 refine QB (QI (p := [LK p0 144 0 v0]) E S Y Y Y (QX Tryz.rwRLib (T := 144) (n := 0) (by decide) (by decide)) lerf ?_)
 clear E a S; rintro a _ w a5 _ a2 ⟨rfl, rfl⟩ S E
 replace S : St w a5 (Qh p0 (.cells #[.int .i32 0, .int .u32 0, .int .u32 0, .int .u32 0, .int .i32 1, .int .i32 0, v0] 144) :: H) := S
 replace h0 := h0.le a2
 refine QZ (Qq E Y fun _ B => QS B (Qb B Y Y) fun _ C => Qa C Y (QW _) fun _ D => JD D Y (Tryz.isAgg116 _) (QC (S.mem (.head _)) Y) ?_)
 clear E a B C D; intro a E
 refine QB (QI (p := []) E S Y Y Y (vw h0 (by first | assumption | omega)) lerf ?_)
 clear E a S; rintro a _ w a3 _ a6 ⟨a0, a1, l_5, rfl, rfl, a9, b1⟩ S E
 replace S : St w a3 (Qh a0 (.cells #[.map (some a1)] 145) :: Qv a1 l_5 :: Qh p0 (.cells #[.int .i32 0, .int .u32 0, .int .u32 0, .int .u32 0, .int .i32 1, .int .i32 0, v0] 144) :: H) := S
 refine QS E (Jo E Y Tryz.underlying116 (by intro z hz; cases hz)) fun _ B => Qx B Y fun _ C => QZ (Qq C Y fun _ D => ZP (u := .agg #[.int .i32 0, .int .u32 0, .int .u32 0, .int .u32 0, .int .i32 0, .int .i32 0, .pointer (some ⟨a0, 0, none⟩)]) (vs := [.pointer (some ⟨a0, 0, none⟩)]) D Y (fun w => VQ _ w) ?_)
 clear E a B C D; intro a E
 refine QB (Yz (cs := #[.int .i32 0, .int .u32 0, .int .u32 0, .int .u32 0, .int .i32 0, .int .i32 0, .pointer (some ⟨a0, 0, none⟩)]) E S Y Y Y ?_)
 clear E a S; rintro a w a7 E S
 refine Qx E Y fun _ B => QZ (Qq B Y fun _ C => QS C (Qb C Y Y) fun _ D => Qa D Y (Qs _) ?_)
 clear E a B C D; intro a E
 replace S := S.front3
 replace S : St w a3 (LK p0 144 (0 + 1) v0 :: _) := S
 refine QB (QI (p := [LK p0 144 (0 + 1) v0]) E S Y Y Y (QP Tryz.rwRLib (T := 144) (n := 0) (by decide) (by decide)) lerf ?_)
 clear E a S; rintro a _ w a4 _ a8 ⟨rfl, rfl⟩ S E
 replace S : St w a4 (Qh p0 (.cells #[.int .i32 0, .int .u32 0, .int .u32 0, .int .u32 0, .int .i32 0, .int .i32 0, v0] 144) :: Qh a7 (.cells #[.int .i32 0, .int .u32 0, .int .u32 0, .int .u32 0, .int .i32 0, .int .i32 0, .pointer (some ⟨a0, 0, none⟩)] 144) :: Qh a0 (.cells #[.map (some a1)] 145) :: Qv a1 l_5 :: H) := S
 refine QZ (Qq E Y fun _ B => QS B (QV B Y Tryz.underlying114) fun _ C => Qx C Y ?_)
 clear E a B C; intro a E
 refine JQ ?_
 replace S := S.front3.front3.front3.front3
 exact Qk E Tryz.results163 Y ⟨_, Y, a4, _, (a2.trans (a6.trans a8)), ⟨_, _, _, _, Y, Y, (by assumption), (by assumption)⟩, S⟩
theorem vE {M : Hp} {x0 : Bool} {v : Value} {t : List RG} {i : Nat} {x : RG} (hx : t[i]? = some x) (hb : x.2.2.length ≤ 1000000000) :
  QD Tryz.prog (Zx KS x0 x) "Clone" M [] [QK KS x0 v t] (fun r _ C' => ∃ D, C' = QK KS x0 v t :: D ∧ ∃ x' : RG, r = Zx KS x0 x' ∧ x'.2.2 = Qw x.2.2 ∧ D = [YO KS x0 x']) := by
 refine Yx hx fun M' hM hr => ?_
 cases x0
 ·exact ZM (F := [Zc KS false x]) (jk (QD.of_sp (fun w => qG _ w) Tryz.call188 (JT (vw hr hb) fun r M2 C ⟨b, m, l, h1, h2, h3, h4⟩ => ⟨b, m, l, h1, h2, h3, fun z => (h4 z).trans JU.symm⟩))) fun r M2 C h => h
 ·exact jZ (K := KS) (QD.of_sp (fun w => qI _ w) Tryz.call163 (JT (OS_Clone hr hb) fun r M2 C ⟨p, b, m, l, h1, h2, h3, h4⟩ => ⟨p, b, m, l, h1, h2, h3, fun z => (h4 z).trans JU.symm⟩))
theorem qm {M : Hp} {m0 : Value} {q0 c0 : List Int} (hm0 : qZ M m0 (Sl.encS q0)) (hn0 : q0.Nodup) (hq0 : ∀ x, x ∈ q0 ↔ x ∈ c0) {v1 : Value} {c1 : List Int} (h1 : JH 145 M v1 c1) (b0 : c0.length ≤ 1000000000) (b1 : c1.length ≤ 1000000000)  :
  Sp Tryz.prog (.func (.func 202) #[] #[]) M [m0, .iface 116 v1] [] (fun r M' C' => ∃ b_ m_ l_, C' = [Qh b_ (.cells #[.map (some m_)] 145), Qv m_ l_] ∧ r = .iface 116 (.pointer (some ⟨b_, 0, none⟩)) ∧ (l_.Nodup) ∧ (∀ z, z ∈ l_ ↔ z ∈ c0 ∨ z ∈ c1)) := by
 refine Qu Tryz.func202 Y Tryz.ntmps202 Y Tryz.call202 ?_
 intro a w M1 H hM1 S E
 replace hm0 := hm0.le hM1
 replace h1 := h1.le hM1
 have hql0 : q0.length ≤ c0.length := Qn hn0 fun z hz => (hq0 z).1 hz
 have hcl0 := JY c0
 have hcl1 := JY c1
 refine QF ?_
 refine QB (Yz (cs := #[m0]) E S Y Y (cells_one (qZ.one' hm0)) ?_)
 clear E a S; rintro a w c4 E S
 obtain ⟨c5, b8, a5, S⟩ := S.freezeB
 replace hm0 := hm0.le b8
 replace h1 := h1.le b8
 refine Qx E Y fun _ B => QZ (Qq B Y fun _ C => QS C (Jo C Y Tryz.underlying116 (by intro z hz; cases hz)) fun _ D => Qx D Y ?_)
 clear E a B C D; intro a E
 refine QZ ?_
 refine QB (Jm E S Y Y Y (QR (⟨_, _, _, Y, a5, hm0, hn0, hq0⟩ : JH 145 c5 (.pointer (some ⟨c4, 0, none⟩)) c0) (by first | assumption | omega)) lerf ?_)
 clear E a S; rintro a _ w c7 a8 rfl S E
 replace hm0 := hm0.le a8
 replace h1 := h1.le a8
 replace a5 := a8.2 _ _ a5
 refine Qq E Y ?_
 clear E a; intro a E
 refine QB (Jm E S Y Y Y (QR h1 (by first | assumption | omega)) lerf ?_)
 clear E a S; rintro a _ w a9 b2 rfl S E
 replace hm0 := hm0.le b2
 replace h1 := h1.le b2
 replace a5 := b2.2 _ _ a5
 refine QY (m := ((Jd c0 + Jd c1 : Nat) : Int)) E Y Y fun _ B => Qx B Y fun _ C => QZ (Qq C Y ?_)
 clear E a B C; intro a E
 refine QB (YW E S Y JJ Y ?_)
 clear E a S; rintro a w a0 E S
 replace S : St w a9 (Qv a0 ([] : List Int) :: _) := S
 refine QB (ZL (cs := #[.map none]) E S Y Tryz.zeroValue145 Y ?_)
 clear E a S; rintro a w a3 E S
 refine Jq (Wf E S Y Y (Tryz.sizeOf145 _) Y ?_)
 clear E a S; rintro a w E S
 refine VM (Qz E Y Tryz.isAgg145 S.imm (Jn a5) ?_)
 clear E a; intro a E
 refine QB (Zz E S Y JJ hm0 Y ?_)
 clear E a S; rintro a w a6 es_8 ck_9 E a4 S
 replace S : St w a9 (Ys m0 es_8 ck_9 a6 (Sl.encS ([] : List Int)) :: _) := S
 refine VJ ?_
 replace S := S.front2.front1.front1
 replace S := S.reM (L' := (Sl.encS (Qp [] []))) (congrArg Sl.encS (show ([] : List Int) = (Qp [] []) by (first | rfl | (simp [Qe]; done) | (simp [Qe, List.filter_append, *]; done))))
 replace S := S.front1
 replace S := S.reIt (p' := (Sl.encS [])) (congrArg Sl.encS (show ([] : List Int) = [] by (first | rfl | (simp [Qe]; done) | (simp [Qe, List.filter_append, *]; done))))
 refine Jb (γ := List Int) (fun (p : List Int) a w => ∃ (a7 : Hp), Hp.le a9 a7 ∧ St w a7 (Ys m0 es_8 ck_9 a6 (Sl.encS p) :: Qv a0 (Qp [] p) :: Qh a3 (.cells #[.map (some a0)] 145) :: H) ∧ Env a 37 [] [(5, v1), (7, .pointer (some ⟨a3, 0, none⟩)), (19, .pointer (some ⟨a6, 0, none⟩))] ∧ (p.Nodup) ∧ (∀ z ∈ p, z ∈ q0) ∧ (p.length ≤ q0.length)) (fun p => q0.length - p.length) [] ⟨a9, lerf, S, E.keep ⟨Y, Y, Y, trivial⟩, (by simp), (by simp), (by simp)⟩ ?_
 try clear E
 try clear S
 try clear a
 try clear w
 rintro p a w ⟨a7, b3, S, E, c8, c9, d0⟩
 replace h1 := h1.le b3
 replace a4 := a4.le b3
 refine QF ?_
 refine QB (ZK E S Y a4 Y (by assumption) (by assumption) ?_ ?_)
 ·clear E a S; rintro a E hpm_12 S
  refine Qj E Y Y ?_
  clear E a; intro a E
  refine ZB ?_
  refine QL E Y Y ?_
  refine Yu (qk (qk (B_x (JG (J_p (Qq E Y ?_))))))
  clear E a; intro a E
  have hset := h1
  obtain ⟨sb1, sm1, sq1, se1, shb1, shm1, shn1, shq1⟩ := hset
  have shq1l : sq1.length ≤ c1.length := Qn shn1 fun z hz => (shq1 z).1 hz
  refine QS E (Qb E Y se1) fun _ B => zw B Y (QG B (congrArg some se1) Tryz.isAgg145 S.imm (Jn shb1)) Y ?_
  clear E a B; intro a E
  refine QB (Zz E S Y JJ shm1 Y ?_)
  clear E a S; rintro a w b4 es_14 ck_15 E b5 S
  replace S : St w a7 (Ys sm1 es_14 ck_15 b4 (Sl.encS ([] : List Int)) :: _) := S
  refine VJ ?_
  replace S := S.front2.front1.front1
  replace S := S.reM (L' := (Sl.encS (Qp (Qp [] p) []))) (congrArg Sl.encS (show (Qp [] p) = (Qp (Qp [] p) []) by (first | rfl | (simp [Qe]; done) | (simp [Qe, List.filter_append, *]; done))))
  replace S := S.front1
  replace S := S.reIt (p' := (Sl.encS [])) (congrArg Sl.encS (show ([] : List Int) = [] by (first | rfl | (simp [Qe]; done) | (simp [Qe, List.filter_append, *]; done))))
  refine Jb (γ := List Int) (fun (r : List Int) a w => ∃ (b6 : Hp), Hp.le a7 b6 ∧ St w b6 (Ys sm1 es_14 ck_15 b4 (Sl.encS r) :: Qv a0 (Qp (Qp [] p) r) :: Ys m0 es_8 ck_9 a6 (Sl.encS p) :: Qh a3 (.cells #[.map (some a0)] 145) :: H) ∧ Env a 37 [] [(7, .pointer (some ⟨a3, 0, none⟩)), (29, .pointer (some ⟨b4, 0, none⟩))] ∧ (r.Nodup) ∧ (∀ z ∈ r, z ∈ sq1) ∧ (r.length ≤ sq1.length)) (fun r => sq1.length - r.length) [] ⟨a7, lerf, S, E.keep ⟨Y, Y, trivial⟩, (by simp), (by simp), (by simp)⟩ ?_
  try clear E
  try clear S
  try clear a
  try clear w
  rintro r a w ⟨b6, b7, S, E, d1, d2, d3⟩
  replace a4 := a4.le b7
  replace b5 := b5.le b7
  refine QF ?_
  refine QB (ZK E S Y b5 Y (by assumption) (by assumption) ?_ ?_)
  ·clear E a S; rintro a E hpm_18 S
   refine Qj E Y Y ?_
   clear E a; intro a E
   refine ZB ?_
   refine QL E Y Y ?_
   refine Um (QS E (QV E Y Tryz.underlying116) fun _ B => Qx B Y ?_)
   clear E a B; intro a E
   refine JQ ?_
   replace S := S.drop.front1.drop.front1
   exact Qk E Tryz.results202 Y ⟨_, Y, b6, _, (b8.trans (a8.trans (b2.trans (b3.trans b7)))), ⟨_, _, _, Y, Y, (by (first | assumption | exact Qt _ _ List.nodup_nil | exact Qt _ _ (Qt _ _ List.nodup_nil))), (by (intro z; have ep := (List.Perm.mem_iff (a := z) (show p.Perm q0 by first | assumption | (exact List.Perm.symm (by assumption)))).trans (hq0 z); have er := (List.Perm.mem_iff (a := z) (show r.Perm sq1 by first | assumption | (exact List.Perm.symm (by assumption)))).trans (shq1 z); simp only [JP, List.not_mem_nil, false_or, List.mem_append, List.mem_filter, decide_eq_true_eq, List.nil_append]; simp only [ep, er]))⟩, S⟩
  ·clear E a S w; rintro a w a1 E hk_20 hk_20n hk_20l S
   refine Qj E Y Y ?_
   clear E a; intro a E
   refine ZB ?_
   refine Jj E Y Y ?_
   refine Ja (JG (Jw (QF (Zy (k := a1) (v := .agg #[]) E (by have S1 := S; simp only [Sl.encS, List.map_append, List.map_cons, List.map_nil] at S1; exact S1) b5 Y fun _ B => Qj B Y Y fun _ C => Qx C Y fun _ D => qd (Qq D Y ?_)))))
   clear E a B C D; intro a E
   replace S := S.front1.front3
   refine QB (QI (p := [Qh a3 (.cells #[.map (some a0)] 145), Qv a0 (Qp (Qp [] p) r)]) E S Y Y Y (GP) lerf ?_)
   clear E a S; rintro a _ w b9 _ c2 ⟨rfl, rfl⟩ S E
   replace S : St w b9 (Qh a3 (.cells #[.map (some a0)] 145) :: Qv a0 (Zr (Qp (Qp [] p) r) a1) :: Ys sm1 es_14 ck_15 b4 (Sl.encS (r ++ [a1])) :: Ys m0 es_8 ck_9 a6 (Sl.encS p) :: H) := S
   replace a4 := a4.le c2
   refine QQ (ZN (JG ?_))
   replace S := S.front3.front2.front3.front1
   replace S := S.reM (L' := (Sl.encS (Qp (Qp [] p) (r ++ [a1])))) (congrArg Sl.encS (show Zr (Qp (Qp [] p) r) a1 = (Qp (Qp [] p) (r ++ [a1])) by (first | rfl | (simp [Qe]; done) | (simp [Qe, List.filter_append, *]; done))))
   replace S := S.front1
   replace S := S.reIt (p' := (Sl.encS (r ++ [a1]))) (congrArg Sl.encS (show r ++ [a1] = (r ++ [a1]) by (first | rfl | (simp [Qe]; done) | (simp [Qe, List.filter_append, *]; done))))
   exact ⟨(r ++ [a1]), ⟨b9, (b7.trans c2), S, E.keep ⟨Y, Y, trivial⟩, (by exact Yn (by assumption) (by assumption)), (by exact Yt (by assumption) (by assumption)), (by simp; omega)⟩, (by simp; omega)⟩
 ·clear E a S w; rintro a w a2 E hk_23 hk_23n hk_23l S
  refine Qj E Y Y ?_
  clear E a; intro a E
  refine ZB ?_
  refine Jj E Y Y ?_
  refine Ja (JG (Jw (QF (Zy (k := a2) (v := .agg #[]) E (by have S1 := S; simp only [Sl.encS, List.map_append, List.map_cons, List.map_nil] at S1; exact S1) a4 Y fun _ B => Qj B Y Y fun _ C => Qx C Y fun _ D => qd (Qq D Y ?_)))))
  clear E a B C D; intro a E
  replace S := S.front1.front2
  refine QB (QI (p := [Qh a3 (.cells #[.map (some a0)] 145), Qv a0 (Qp [] p)]) E S Y Y Y (GP) lerf ?_)
  clear E a S; rintro a _ w c3 _ c6 ⟨rfl, rfl⟩ S E
  replace S : St w c3 (Qh a3 (.cells #[.map (some a0)] 145) :: Qv a0 (Zr (Qp [] p) a2) :: Ys m0 es_8 ck_9 a6 (Sl.encS (p ++ [a2])) :: H) := S
  refine QQ (ZN (JG ?_))
  replace S := S.front1.front2.front1
  replace S := S.reM (L' := (Sl.encS (Qp [] (p ++ [a2])))) (congrArg Sl.encS (show Zr (Qp [] p) a2 = (Qp [] (p ++ [a2])) by (first | rfl | (simp [Qe]; done) | (simp [Qe, List.filter_append, *]; done))))
  replace S := S.front1
  replace S := S.reIt (p' := (Sl.encS (p ++ [a2]))) (congrArg Sl.encS (show p ++ [a2] = (p ++ [a2]) by (first | rfl | (simp [Qe]; done) | (simp [Qe, List.filter_append, *]; done))))
  exact ⟨(p ++ [a2]), ⟨c3, (b3.trans c6), S, E.keep ⟨Y, Y, Y, trivial⟩, (by exact Yn (by assumption) (by assumption)), (by exact Yt (by assumption) (by assumption)), (by simp; omega)⟩, (by simp; omega)⟩
theorem OS_Union {M : Hp} {p0 : Nat} {v0 : Value} {c0 : List Int} (h0 : JH 145 M v0 c0) {p1 : Nat} {v1 : Value} {c1 : List Int} (h1 : JH 145 M v1 c1) (b0 : c0.length ≤ 1000000000) (b1 : c1.length ≤ 1000000000)  :
  Sp Tryz.prog (.func (.func 183) #[] #[]) M [.pointer (some ⟨p0, 0, none⟩), .iface 114 (.pointer (some ⟨p1, 0, none⟩))] [Qh p0 (.cells #[.int .i32 0, .int .u32 0, .int .u32 0, .int .u32 0, .int .i32 0, .int .i32 0, v0] 144), Qh p1 (.cells #[.int .i32 0, .int .u32 0, .int .u32 0, .int .u32 0, .int .i32 0, .int .i32 0, v1] 144)] (fun r M' C' => ∃ p_ b_ m_ l_, C' = [Qh p0 (.cells #[.int .i32 0, .int .u32 0, .int .u32 0, .int .u32 0, .int .i32 0, .int .i32 0, v0] 144), Qh p1 (.cells #[.int .i32 0, .int .u32 0, .int .u32 0, .int .u32 0, .int .i32 0, .int .i32 0, v1] 144), Qh p_ (.cells #[.int .i32 0, .int .u32 0, .int .u32 0, .int .u32 0, .int .i32 0, .int .i32 0, .pointer (some ⟨b_, 0, none⟩)] 144), Qh b_ (.cells #[.map (some m_)] 145), Qv m_ l_] ∧ r = .iface 114 (.pointer (some ⟨p_, 0, none⟩)) ∧ (l_.Nodup) ∧ (∀ z, z ∈ l_ ↔ z ∈ c0 ∨ z ∈ c1)) := by
 refine Qu Tryz.func183 Y Tryz.ntmps183 Y Tryz.call183 ?_
 intro a w M1 H hM1 S E
 replace S : St w M1 (Qh p0 (.cells #[.int .i32 0, .int .u32 0, .int .u32 0, .int .u32 0, .int .i32 0, .int .i32 0, v0] 144) :: Qh p1 (.cells #[.int .i32 0, .int .u32 0, .int .u32 0, .int .u32 0, .int .i32 0, .int .i32 0, v1] 144) :: _) := S
 replace h0 := h0.le hM1
 replace h1 := h1.le hM1
 have hset := h0
 obtain ⟨sb0, sm0, sq0, se0, shb0, shm0, shn0, shq0⟩ := hset
 have shq0l : sq0.length ≤ c0.length := Qn shn0 fun z hz => (shq0 z).1 hz
 have hset := h1
 obtain ⟨sb1, sm1, sq1, se1, shb1, shm1, shn1, shq1⟩ := hset
 have shq1l : sq1.length ≤ c1.length := Qn shn1 fun z hz => (shq1 z).1 hz
 refine QF (Qx E Y fun _ B => QZ (Qq B Y fun _ D => QS D (Jo D Y Tryz.underlying114 (by intro z hz; cases hz)) fun _ F => Qx F Y fun _ G => QZ (Qq G Y fun _ I => QS I (Qb I Y Y) fun _ J => Qa J Y (Qs _) ?_)))
 clear E a B D F G I J; intro a E
 replace S : St w M1 (LK p0 144 0 v0 :: _) := S
 refine QB (QI (p := [LK p0 144 0 v0]) E S Y Y Y (QX Tryz.rwRLib (T := 144) (n := 0) (by decide) (by decide)) lerf ?_)
 clear E a S; rintro a _ w a4 _ a2 ⟨rfl, rfl⟩ S E
 replace S : St w a4 (Qh p0 (.cells #[.int .i32 0, .int .u32 0, .int .u32 0, .int .u32 0, .int .i32 1, .int .i32 0, v0] 144) :: Qh p1 (.cells #[.int .i32 0, .int .u32 0, .int .u32 0, .int .u32 0, .int .i32 0, .int .i32 0, v1] 144) :: H) := S
 replace h1 := h1.le a2
 replace shb0 := a2.2 _ _ shb0
 replace shm0 := shm0.le a2
 refine QZ (Qq E Y fun _ B => QS B (Qb B Y Y) fun _ D => Qa D Y (Qs _) ?_)
 clear E a B D; intro a E
 replace S := S.front1
 replace S : St w a4 (LK p1 144 0 v1 :: _) := S
 refine QB (QI (p := [LK p1 144 0 v1]) E S Y Y Y (QX Tryz.rwRLib (T := 144) (n := 0) (by decide) (by decide)) lerf ?_)
 clear E a S; rintro a _ w a5 _ a3 ⟨rfl, rfl⟩ S E
 replace S : St w a5 (Qh p1 (.cells #[.int .i32 0, .int .u32 0, .int .u32 0, .int .u32 0, .int .i32 1, .int .i32 0, v1] 144) :: Qh p0 (.cells #[.int .i32 0, .int .u32 0, .int .u32 0, .int .u32 0, .int .i32 1, .int .i32 0, v0] 144) :: H) := S
 replace h1 := h1.le a3
 replace shb0 := a3.2 _ _ shb0
 replace shm0 := shm0.le a3
 refine ZB ?_
 replace S := S.mono_heap (w' := World.drew _) rfl
 refine QN (C := fun x w => agree a5 w ∧ (x = 3 → w.heap[p0]? = some (.cells #[.int .i32 0, .int .u32 0, .int .u32 0, .int .u32 0, .int .i32 1, .int .i32 0, v0] 144)) ∧ (x = 9 → w.heap[p1]? = some (.cells #[.int .i32 0, .int .u32 0, .int .u32 0, .int .u32 0, .int .i32 1, .int .i32 0, v1] 144))) (bf := (fun i => bif Nat.beq i 11 then [3, 9] else [])) [0, 1, 2, 3, 4, 5, 6, 7, 8, 9, 10, 12, 13] [0, 1, 2, 3, 4, 5, 6, 7, 8, 9, 10, 11, 12, 13] Tryz.mixed (by kernel_rfl) (fun x hq => ⟨S.imm, fun _ => (S.mem (.tail _ (.head _))), fun _ => (S.mem (.head _))⟩) ?_
 refine Qo E Y (fun w hC => (Qi E Y)) fun _ B => Qo B Y (fun w hC => (Qb B Y Y)) fun _ D => Qo D Y (fun w hC => (Ql D Y (QW _))) fun _ F => Qo F Y (fun w hC => (Jz F Y (Tryz.isAgg116 _) (QC (hC.2.1 Y) Y))) fun _ G => Qo G Y (fun w hC => (Qb G Y se0)) fun _ I => Qo I Y (fun w hC => (QG I (congrArg some se0) Tryz.isAgg145 hC.1 (Jn shb0))) fun _ J => Qo J Y (fun w hC => (Qi J Y)) fun _ K => Qo K Y (fun w hC => (Qb K Y Y)) fun _ L => Qo L Y (fun w hC => (Ql L Y (QW _))) fun _ N => Qo N Y (fun w hC => (Jz N Y (Tryz.isAgg116 _) (QC (hC.2.2 Y) Y))) fun _ O => Qo O Y (fun w hC => (QV O Y Tryz.underlying116)) ?_
 clear E a B D F G I J K L N O; intro a E
 refine Zd Y Y Y (QI (p := []) E S Y Y Y (qm shm0 shn0 shq0 h1 (by first | assumption | omega) (by first | assumption | omega)) lerf ?_)
 clear E a S; rintro a _ w a6 _ a7 ⟨a0, a1, l_6, rfl, rfl, b5, b6⟩ S E
 replace S : St w a6 (Qh a0 (.cells #[.map (some a1)] 145) :: Qv a1 l_6 :: Qh p1 (.cells #[.int .i32 0, .int .u32 0, .int .u32 0, .int .u32 0, .int .i32 1, .int .i32 0, v1] 144) :: Qh p0 (.cells #[.int .i32 0, .int .u32 0, .int .u32 0, .int .u32 0, .int .i32 1, .int .i32 0, v0] 144) :: H) := S
 refine ⟨fun x hq hb => ⟨(Qg a7 S.imm), (fun e => by subst e; exact absurd hb (by decide)), (fun e => by subst e; exact absurd hb (by decide))⟩, ?_⟩
 refine Qo E Y (fun w hC => (Jo E Y Tryz.underlying116 (by intro z hz; cases hz))) fun _ B => Qo B Y (fun w hC => (Qy B Y)) ?_
 clear E a B; intro a E
 refine Jv (Ju ?_)
 refine JG (QF (Qq E Y fun _ B => ZP (u := .agg #[.int .i32 0, .int .u32 0, .int .u32 0, .int .u32 0, .int .i32 0, .int .i32 0, .pointer (some ⟨a0, 0, none⟩)]) (vs := [.pointer (some ⟨a0, 0, none⟩)]) B Y (fun w => VQ _ w) ?_))
 clear E a B; intro a E
 refine QB (Yz (cs := #[.int .i32 0, .int .u32 0, .int .u32 0, .int .u32 0, .int .i32 0, .int .i32 0, .pointer (some ⟨a0, 0, none⟩)]) E S Y Y Y ?_)
 clear E a S; rintro a w a8 E S
 refine Qx E Y fun _ B => QZ (Qq B Y fun _ D => QS D (Qb D Y Y) fun _ F => Qa F Y (Qs _) ?_)
 clear E a B D F; intro a E
 replace S := S.front4
 replace S : St w a6 (LK p0 144 (0 + 1) v0 :: _) := S
 refine QB (QI (p := [LK p0 144 (0 + 1) v0]) E S Y Y Y (QP Tryz.rwRLib (T := 144) (n := 0) (by decide) (by decide)) lerf ?_)
 clear E a S; rintro a _ w a9 _ b3 ⟨rfl, rfl⟩ S E
 replace S : St w a9 (Qh p0 (.cells #[.int .i32 0, .int .u32 0, .int .u32 0, .int .u32 0, .int .i32 0, .int .i32 0, v0] 144) :: Qh a8 (.cells #[.int .i32 0, .int .u32 0, .int .u32 0, .int .u32 0, .int .i32 0, .int .i32 0, .pointer (some ⟨a0, 0, none⟩)] 144) :: Qh a0 (.cells #[.map (some a1)] 145) :: Qv a1 l_6 :: Qh p1 (.cells #[.int .i32 0, .int .u32 0, .int .u32 0, .int .u32 0, .int .i32 1, .int .i32 0, v1] 144) :: H) := S
 refine QZ (Qq E Y fun _ B => QS B (Qb B Y Y) fun _ D => Qa D Y (Qs _) ?_)
 clear E a B D; intro a E
 replace S := S.front4
 replace S : St w a9 (LK p1 144 (0 + 1) v1 :: _) := S
 refine QB (QI (p := [LK p1 144 (0 + 1) v1]) E S Y Y Y (QP Tryz.rwRLib (T := 144) (n := 0) (by decide) (by decide)) lerf ?_)
 clear E a S; rintro a _ w b2 _ b4 ⟨rfl, rfl⟩ S E
 replace S : St w b2 (Qh p1 (.cells #[.int .i32 0, .int .u32 0, .int .u32 0, .int .u32 0, .int .i32 0, .int .i32 0, v1] 144) :: Qh p0 (.cells #[.int .i32 0, .int .u32 0, .int .u32 0, .int .u32 0, .int .i32 0, .int .i32 0, v0] 144) :: Qh a8 (.cells #[.int .i32 0, .int .u32 0, .int .u32 0, .int .u32 0, .int .i32 0, .int .i32 0, .pointer (some ⟨a0, 0, none⟩)] 144) :: Qh a0 (.cells #[.map (some a1)] 145) :: Qv a1 l_6 :: H) := S
 refine QZ (Qq E Y fun _ B => QS B (QV B Y Tryz.underlying114) fun _ D => Qx D Y ?_)
 clear E a B D; intro a E
 refine JQ ?_
 replace S := S.front4.front4.front4.front3.front4
 exact Qk E Tryz.results183 Y ⟨_, Y, b2, _, (a2.trans (a3.trans (a7.trans (b3.trans b4)))), ⟨_, _, _, _, Y, Y, (by assumption), (by assumption)⟩, S⟩
theorem AS_Union {M : Hp} {p0 : Nat} {v0 : Value} {c0 : List Int} (h0 : JH 145 M v0 c0) (b0 : c0.length ≤ 1000000000)  :
  Sp Tryz.prog (.func (.func 183) #[] #[]) M [.pointer (some ⟨p0, 0, none⟩), .iface 114 (.pointer (some ⟨p0, 0, none⟩))] [Qh p0 (.cells #[.int .i32 0, .int .u32 0, .int .u32 0, .int .u32 0, .int .i32 0, .int .i32 0, v0] 144)] (fun r M' C' => ∃ p_ b_ m_ l_, C' = [Qh p0 (.cells #[.int .i32 0, .int .u32 0, .int .u32 0, .int .u32 0, .int .i32 0, .int .i32 0, v0] 144), Qh p_ (.cells #[.int .i32 0, .int .u32 0, .int .u32 0, .int .u32 0, .int .i32 0, .int .i32 0, .pointer (some ⟨b_, 0, none⟩)] 144), Qh b_ (.cells #[.map (some m_)] 145), Qv m_ l_] ∧ r = .iface 114 (.pointer (some ⟨p_, 0, none⟩)) ∧ (l_.Nodup) ∧ (∀ z, z ∈ l_ ↔ z ∈ c0 ∨ z ∈ c0)) := by
 refine Qu Tryz.func183 Y Tryz.ntmps183 Y Tryz.call183 ?_
 intro a w M1 H hM1 S E
 replace S : St w M1 (Qh p0 (.cells #[.int .i32 0, .int .u32 0, .int .u32 0, .int .u32 0, .int .i32 0, .int .i32 0, v0] 144) :: _) := S
 replace h0 := h0.le hM1
 have hset := h0
 obtain ⟨sb0, sm0, sq0, se0, shb0, shm0, shn0, shq0⟩ := hset
 have shq0l : sq0.length ≤ c0.length := Qn shn0 fun z hz => (shq0 z).1 hz
 refine QF (Qx E Y fun _ B => QZ (Qq B Y fun _ D => QS D (Jo D Y Tryz.underlying114 (by intro z hz; cases hz)) fun _ F => Qx F Y fun _ G => QZ (Qq G Y fun _ I => QS I (Qb I Y Y) fun _ J => Qa J Y (Qs _) ?_)))
 clear E a B D F G I J; intro a E
 replace S : St w M1 (LK p0 144 0 v0 :: _) := S
 refine QB (QI (p := [LK p0 144 0 v0]) E S Y Y Y (QX Tryz.rwRLib (T := 144) (n := 0) (by decide) (by decide)) lerf ?_)
 clear E a S; rintro a _ w a4 _ a2 ⟨rfl, rfl⟩ S E
 replace S : St w a4 (Qh p0 (.cells #[.int .i32 0, .int .u32 0, .int .u32 0, .int .u32 0, .int .i32 1, .int .i32 0, v0] 144) :: H) := S
 replace h0 := h0.le a2
 replace shb0 := a2.2 _ _ shb0
 replace shm0 := shm0.le a2
 refine QZ (Qq E Y fun _ B => QS B (Qb B Y Y) fun _ D => Qa D Y (Qs _) ?_)
 clear E a B D; intro a E
 replace S : St w a4 (LK p0 144 1 v0 :: _) := S
 refine QB (QI (p := [LK p0 144 1 v0]) E S Y Y Y (QX Tryz.rwRLib (T := 144) (n := 1) (by decide) (by decide)) lerf ?_)
 clear E a S; rintro a _ w a5 _ a3 ⟨rfl, rfl⟩ S E
 replace S : St w a5 (Qh p0 (.cells #[.int .i32 0, .int .u32 0, .int .u32 0, .int .u32 0, .int .i32 2, .int .i32 0, v0] 144) :: H) := S
 replace h0 := h0.le a3
 replace shb0 := a3.2 _ _ shb0
 replace shm0 := shm0.le a3
 refine ZB ?_
 replace S := S.mono_heap (w' := World.drew _) rfl
 refine QN (C := fun x w => agree a5 w ∧ (x = 3 → w.heap[p0]? = some (.cells #[.int .i32 0, .int .u32 0, .int .u32 0, .int .u32 0, .int .i32 2, .int .i32 0, v0] 144)) ∧ (x = 9 → w.heap[p0]? = some (.cells #[.int .i32 0, .int .u32 0, .int .u32 0, .int .u32 0, .int .i32 2, .int .i32 0, v0] 144))) (bf := (fun i => bif Nat.beq i 11 then [3, 9] else [])) [0, 1, 2, 3, 4, 5, 6, 7, 8, 9, 10, 12, 13] [0, 1, 2, 3, 4, 5, 6, 7, 8, 9, 10, 11, 12, 13] Tryz.mixed (by kernel_rfl) (fun x hq => ⟨S.imm, fun _ => (S.mem (.head _)), fun _ => (S.mem (.head _))⟩) ?_
 refine Qo E Y (fun w hC => (Qi E Y)) fun _ B => Qo B Y (fun w hC => (Qb B Y Y)) fun _ D => Qo D Y (fun w hC => (Ql D Y (QW _))) fun _ F => Qo F Y (fun w hC => (Jz F Y (Tryz.isAgg116 _) (QC (hC.2.1 Y) Y))) fun _ G => Qo G Y (fun w hC => (Qb G Y se0)) fun _ I => Qo I Y (fun w hC => (QG I (congrArg some se0) Tryz.isAgg145 hC.1 (Jn shb0))) fun _ J => Qo J Y (fun w hC => (Qi J Y)) fun _ K => Qo K Y (fun w hC => (Qb K Y Y)) fun _ L => Qo L Y (fun w hC => (Ql L Y (QW _))) fun _ N => Qo N Y (fun w hC => (Jz N Y (Tryz.isAgg116 _) (QC (hC.2.2 Y) Y))) fun _ O => Qo O Y (fun w hC => (QV O Y Tryz.underlying116)) ?_
 clear E a B D F G I J K L N O; intro a E
 refine Zd Y Y Y (QI (p := []) E S Y Y Y (qm shm0 shn0 shq0 h0 (by first | assumption | omega) (by first | assumption | omega)) lerf ?_)
 clear E a S; rintro a _ w a6 _ a7 ⟨a0, a1, l_6, rfl, rfl, b4, b5⟩ S E
 replace S : St w a6 (Qh a0 (.cells #[.map (some a1)] 145) :: Qv a1 l_6 :: Qh p0 (.cells #[.int .i32 0, .int .u32 0, .int .u32 0, .int .u32 0, .int .i32 2, .int .i32 0, v0] 144) :: H) := S
 refine ⟨fun x hq hb => ⟨(Qg a7 S.imm), (fun e => by subst e; exact absurd hb (by decide)), (fun e => by subst e; exact absurd hb (by decide))⟩, ?_⟩
 refine Qo E Y (fun w hC => (Jo E Y Tryz.underlying116 (by intro z hz; cases hz))) fun _ B => Qo B Y (fun w hC => (Qy B Y)) ?_
 clear E a B; intro a E
 refine Jv (Ju ?_)
 refine JG (QF (Qq E Y fun _ B => ZP (u := .agg #[.int .i32 0, .int .u32 0, .int .u32 0, .int .u32 0, .int .i32 0, .int .i32 0, .pointer (some ⟨a0, 0, none⟩)]) (vs := [.pointer (some ⟨a0, 0, none⟩)]) B Y (fun w => VQ _ w) ?_))
 clear E a B; intro a E
 refine QB (Yz (cs := #[.int .i32 0, .int .u32 0, .int .u32 0, .int .u32 0, .int .i32 0, .int .i32 0, .pointer (some ⟨a0, 0, none⟩)]) E S Y Y Y ?_)
 clear E a S; rintro a w a8 E S
 refine Qx E Y fun _ B => QZ (Qq B Y fun _ D => QS D (Qb D Y Y) fun _ F => Qa F Y (Qs _) ?_)
 clear E a B D F; intro a E
 replace S := S.front3
 replace S : St w a6 (LK p0 144 (1 + 1) v0 :: _) := S
 refine QB (QI (p := [LK p0 144 (1 + 1) v0]) E S Y Y Y (QP Tryz.rwRLib (T := 144) (n := 1) (by decide) (by decide)) lerf ?_)
 clear E a S; rintro a _ w a9 _ b2 ⟨rfl, rfl⟩ S E
 replace S : St w a9 (Qh p0 (.cells #[.int .i32 0, .int .u32 0, .int .u32 0, .int .u32 0, .int .i32 1, .int .i32 0, v0] 144) :: Qh a8 (.cells #[.int .i32 0, .int .u32 0, .int .u32 0, .int .u32 0, .int .i32 0, .int .i32 0, .pointer (some ⟨a0, 0, none⟩)] 144) :: Qh a0 (.cells #[.map (some a1)] 145) :: Qv a1 l_6 :: H) := S
 refine QZ (Qq E Y fun _ B => QS B (Qb B Y Y) fun _ D => Qa D Y (Qs _) ?_)
 clear E a B D; intro a E
 replace S : St w a9 (LK p0 144 (0 + 1) v0 :: _) := S
 refine QB (QI (p := [LK p0 144 (0 + 1) v0]) E S Y Y Y (QP Tryz.rwRLib (T := 144) (n := 0) (by decide) (by decide)) lerf ?_)
 clear E a S; rintro a _ w b1 _ b3 ⟨rfl, rfl⟩ S E
 replace S : St w b1 (Qh p0 (.cells #[.int .i32 0, .int .u32 0, .int .u32 0, .int .u32 0, .int .i32 0, .int .i32 0, v0] 144) :: Qh a8 (.cells #[.int .i32 0, .int .u32 0, .int .u32 0, .int .u32 0, .int .i32 0, .int .i32 0, .pointer (some ⟨a0, 0, none⟩)] 144) :: Qh a0 (.cells #[.map (some a1)] 145) :: Qv a1 l_6 :: H) := S
 refine QZ (Qq E Y fun _ B => QS B (QV B Y Tryz.underlying114) fun _ D => Qx D Y ?_)
 clear E a B D; intro a E
 refine JQ ?_
 replace S := S.front3.front3.front3.front3
 exact Qk E Tryz.results183 Y ⟨_, Y, b1, _, (a2.trans (a3.trans (a7.trans (b2.trans b3)))), ⟨_, _, _, _, Y, Y, (by assumption), (by assumption)⟩, S⟩
theorem vC {M : Hp} {x0 : Bool} {v : Value} {t : List RG} {i : Nat} {x : RG} {j : Nat} {y : RG} (hx : t[i]? = some x) (hy : t[j]? = some y) (hb : x.2.2.length ≤ 1000000000) (hb2 : y.2.2.length ≤ 1000000000) :
  QD Tryz.prog (Zx KS x0 x) "Union" M [Zx KS x0 y] [QK KS x0 v t] (fun r _ C' => ∃ D, C' = QK KS x0 v t :: D ∧ ∃ x' : RG, r = Zx KS x0 x' ∧ x'.2.2 = Qw (x.2.2 ++ y.2.2) ∧ D = [YO KS x0 x']) := by
 refine ZX hx hy (fun M' hM hr hs => ?_) (fun e9 M' hM hr => ?_)
 ·cases x0
  ·obtain ⟨b0, m0, q0, e, hb0, hm, hn, hq⟩ := hr
   exact ZM (F := [Zc KS false x, Zc KS false y]) (jk (QD.of_spS (fun w M1 H hM S => Uw e (Yi S.imm (Jn (hM.2 _ _ hb0)))) Tryz.call202 (JT (qm hm hn hq hs hb hb2) fun r M2 C ⟨b, m, l, h1, h2, h3, h4⟩ => ⟨b, m, l, h1, h2, h3, fun z => (h4 z).trans (by rw [JU, List.mem_append])⟩))) fun r M2 C h => h
  ·exact vj (K := KS) (QD.of_sp (fun w => UA _ w) Tryz.call183 (JT (OS_Union hr hs hb hb2) fun r M2 C ⟨p, b, m, l, h1, h2, h3, h4⟩ => ⟨p, b, m, l, h1, h2, h3, fun z => (h4 z).trans (by rw [JU, List.mem_append])⟩))
 ·subst e9
  cases x0
  ·obtain ⟨b0, m0, q0, e, hb0, hm, hn, hq⟩ := id hr
   exact ZM (F := [Zc KS false y]) (jk (QD.of_spS (fun w M1 H hM S => Uw e (Yi S.imm (Jn (hM.2 _ _ hb0)))) Tryz.call202 (JT (qm hm hn hq hr hb hb) fun r M2 C ⟨b, m, l, h1, h2, h3, h4⟩ => ⟨b, m, l, h1, h2, h3, fun z => (h4 z).trans (by rw [JU, List.mem_append])⟩))) fun r M2 C h => h
  ·exact jZ (K := KS) (QD.of_sp (fun w => UA _ w) Tryz.call183 (JT (AS_Union hr hb) fun r M2 C ⟨p, b, m, l, h1, h2, h3, h4⟩ => ⟨p, b, m, l, h1, h2, h3, fun z => (h4 z).trans (by rw [JU, List.mem_append])⟩))
theorem ZQ {M : Hp} {x1 : Int} {v0 : Value} {c0 : List Int} (h0 : JH 145 M v0 c0) (b0 : c0.length ≤ 1000000000)  :
  Pu Tryz.prog (.func (.func 207) #[] #[]) M [v0, .int .i64 x1] (fun r M' => r = .bool (decide (x1 ∈ c0))) := by
 refine Jt Tryz.func207 Y Tryz.ntmps207 Y Tryz.call207 ?_
 intro a w M1 H hM1 S E
 replace h0 := h0.le hM1
 refine QF (Qx E Y fun _ B => QZ (Qq B Y ?_))
 clear E a B; intro a E
 have hset := h0
 obtain ⟨sb0, sm0, sq0, se0, shb0, shm0, shn0, shq0⟩ := hset
 have shq0l : sq0.length ≤ c0.length := Qn shn0 fun z hz => (shq0 z).1 hz
 refine QS E (Qb E Y se0) fun _ B => zw B Y (QG B (congrArg some se0) Tryz.isAgg145 S.imm (Jn shb0)) Y fun _ C => Qq C Y fun _ D => Ub S.imm shm0 D JJ Y Y fun _ F => Qq F Y fun _ G => Qj G Y Y fun _ I => Qj I Y Y fun _ J => Qx J Y fun _ K => QZ (JR 2 K Y ?_)
 clear E a B C D F G I J K; intro a E
 refine JQ ?_
 exact Qk E Tryz.results207 Y ⟨_, Y, M1, lerf, (cgB (by (simp [*]; done))), S⟩
theorem VL {M : Hp} {v0 : Value} {c0 : List Int} (h0 : JH 145 M v0 c0) {v1 : Value} {c1 : List Int} (h1 : JH 145 M v1 c1) (b0 : c0.length ≤ 1000000000) (b1 : c1.length ≤ 1000000000)  :
  Sp Tryz.prog (.func (.func 195) #[] #[]) M [v0, .iface 116 v1] [] (fun r M' C' => ∃ b_ m_ l_, C' = [Qh b_ (.cells #[.map (some m_)] 145), Qv m_ l_] ∧ r = .iface 116 (.pointer (some ⟨b_, 0, none⟩)) ∧ (l_.Nodup) ∧ (∀ z, z ∈ l_ ↔ z ∈ c0 ∧ z ∈ c1)) := by
 refine Qu Tryz.func195 Y Tryz.ntmps195 Y Tryz.call195 ?_
 intro a w M1 H hM1 S E
 replace h0 := h0.le hM1
 replace h1 := h1.le hM1
 have hcl0 := JY c0
 have hcl1 := JY c1
 refine QF (Qx E Y fun _ B => QZ (Qq B Y fun _ C => QS C (Jo C Y Tryz.underlying116 (by intro z hz; cases hz)) fun _ D => Qx D Y ?_))
 clear E a B C D; intro a E
 refine QZ ?_
 refine QB (ZL (cs := #[.map none]) E S Y Tryz.zeroValue145 Y ?_)
 clear E a S; rintro a w a2 E S
 refine VM (Qq E Y ?_)
 clear E a; intro a E
 refine QB (Jm E S Y Y Y (QR h0 (by first | assumption | omega)) lerf ?_)
 clear E a S; rintro a _ w d4 a7 rfl S E
 replace h0 := h0.le a7
 replace h1 := h1.le a7
 refine Qq E Y ?_
 clear E a; intro a E
 refine QB (qT E S Y Y Y (JO _ _) Tryz.call205 (QR h1 (by first | assumption | omega)) lerf ?_)
 clear E a S; rintro a _ w d5 a8 rfl S E
 replace h0 := h0.le a8
 replace h1 := h1.le a8
 refine ZG E Y Y ?_
 clear E a; intro a E
 refine Jx ?_
 refine QJ E Y (fun c8 => ?_) (fun c8 => ?_)
 ·refine QF (Qq E Y ?_)
  clear E a; intro a E
  refine QB (Jm E S Y Y Y (QR h0 (by first | assumption | omega)) lerf ?_)
  clear E a S; rintro a _ w a9 c2 rfl S E
  replace h0 := h0.le c2
  replace h1 := h1.le c2
  refine QB (YW E S Y JJ Y ?_)
  clear E a S; rintro a w a3 E S
  replace S : St w a9 (Qv a3 ([] : List Int) :: _) := S
  replace S := S.front1
  refine Jq (Wf E S Y Y (Tryz.sizeOf145 _) Y ?_)
  clear E a S; rintro a w E S
  refine QZ (Qq E Y ?_)
  clear E a; intro a E
  have hset := h0
  obtain ⟨sb0, sm0, sq0, se0, shb0, shm0, shn0, shq0⟩ := hset
  have shq0l : sq0.length ≤ c0.length := Qn shn0 fun z hz => (shq0 z).1 hz
  refine QS E (Qb E Y se0) fun _ B => zw B Y (QG B (congrArg some se0) Tryz.isAgg145 S.imm (Jn shb0)) Y ?_
  clear E a B; intro a E
  refine QB (Zz E S Y JJ shm0 Y ?_)
  clear E a S; rintro a w b2 es_8 ck_9 E b3 S
  replace S : St w a9 (Ys sm0 es_8 ck_9 b2 (Sl.encS ([] : List Int)) :: _) := S
  refine VJ ?_
  replace S := S.front2.front1.front1
  replace S := S.reM (L' := (Sl.encS (Qp [] (([]).filter (fun z => decide (z ∈ c1)))))) (congrArg Sl.encS (show ([] : List Int) = (Qp [] (([]).filter (fun z => decide (z ∈ c1)))) by (first | rfl | (simp [Qe]; done) | (simp [Qe, List.filter_append, *]; done))))
  replace S := S.front1
  replace S := S.reIt (p' := (Sl.encS [])) (congrArg Sl.encS (show ([] : List Int) = [] by (first | rfl | (simp [Qe]; done) | (simp [Qe, List.filter_append, *]; done))))
  refine Jb (γ := List Int) (fun (p : List Int) a w => ∃ (b4 : Hp), Hp.le a9 b4 ∧ St w b4 (Ys sm0 es_8 ck_9 b2 (Sl.encS p) :: Qv a3 (Qp [] ((p).filter (fun z => decide (z ∈ c1)))) :: Qh a2 (.cells #[.map (some a3)] 145) :: H) ∧ Env a 49 [] [(5, v1), (6, .pointer (some ⟨a2, 0, none⟩)), (22, .pointer (some ⟨b2, 0, none⟩))] ∧ (p.Nodup) ∧ (∀ z ∈ p, z ∈ sq0) ∧ (p.length ≤ sq0.length)) (fun p => sq0.length - p.length) [] ⟨a9, lerf, S, E.keep ⟨Y, Y, Y, trivial⟩, (by simp), (by simp), (by simp)⟩ ?_
  try clear E
  try clear S
  try clear a
  try clear w
  rintro p a w ⟨b4, a5, S, E, d6, d7, d8⟩
  replace h0 := h0.le a5
  replace h1 := h1.le a5
  replace b3 := b3.le a5
  refine QF ?_
  refine QB (ZK E S Y b3 Y (by assumption) (by assumption) ?_ ?_)
  ·clear E a S; rintro a E hpm_12 S
   refine Qj E Y Y ?_
   clear E a; intro a E
   refine ZB ?_
   refine QL E Y Y ?_
   refine Um (QS E (QV E Y Tryz.underlying116) fun _ B => Qx B Y ?_)
   clear E a B; intro a E
   refine JQ ?_
   replace S := S.drop.front1
   exact Qk E Tryz.results195 Y ⟨_, Y, b4, _, (a7.trans (a8.trans (c2.trans a5))), ⟨_, _, _, Y, Y, (by (first | assumption | exact Qt _ _ List.nodup_nil | exact Qt _ _ (Qt _ _ List.nodup_nil))), (by (first | (intro z; have ep := (List.Perm.mem_iff (a := z) (show p.Perm sq0 by first | assumption | (exact List.Perm.symm (by assumption)))).trans (shq0 z); simp only [JP, List.not_mem_nil, false_or, List.mem_append, List.mem_filter, decide_eq_true_eq, List.nil_append]; simp only [ep]) | (intro z; have ep := (List.Perm.mem_iff (a := z) (show p.Perm sq1 by first | assumption | (exact List.Perm.symm (by assumption)))).trans (shq1 z); simp only [JP, List.not_mem_nil, false_or, List.mem_filter, decide_eq_true_eq]; rw [ep]; exact And.comm)))⟩, S⟩
  ·clear E a S w; rintro a w a0 E hk_14 hk_14n hk_14l S
   refine Qj E Y Y ?_
   clear E a; intro a E
   refine ZB ?_
   refine Jj E Y Y ?_
   refine Ja (JG (Jw (QF (Zy (k := a0) (v := .agg #[]) E (by have S1 := S; simp only [Sl.encS, List.map_append, List.map_cons, List.map_nil] at S1; exact S1) b3 Y fun _ B => Qj B Y Y fun _ C => Qx C Y fun _ D => QZ (JR 2 D Y ?_)))))
   clear E a B C D; intro a E
   refine QB (Jm E S Y Y Y (ZQ h1 (by first | assumption | omega)) lerf ?_)
   clear E a S; rintro a _ w c9 b5 rfl S E
   replace h0 := h0.le b5
   replace h1 := h1.le b5
   refine Jx ?_
   refine QJ E Y (fun d0 => ?_) (fun d0 => ?_)
   ·refine Qr (Qq E Y ?_)
    clear E a; intro a E
    replace S := S.front1.front2
    refine QB (QI (p := [Qh a2 (.cells #[.map (some a3)] 145), Qv a3 (Qp [] ((p).filter (fun z => decide (z ∈ c1))))]) E S Y Y Y (GP) lerf ?_)
    clear E a S; rintro a _ w c5 _ c3 ⟨rfl, rfl⟩ S E
    replace S : St w c5 (Qh a2 (.cells #[.map (some a3)] 145) :: Qv a3 (Zr (Qp [] ((p).filter (fun z => decide (z ∈ c1)))) a0) :: Ys sm0 es_8 ck_9 b2 (Sl.encS (p ++ [a0])) :: H) := S
    replace h0 := h0.le c3
    replace h1 := h1.le c3
    refine QQ (ZN (JG ?_))
    replace S := S.front1.front2.front1
    replace S := S.reM (L' := (Sl.encS (Qp [] (((p ++ [a0])).filter (fun z => decide (z ∈ c1)))))) (congrArg Sl.encS (show Zr (Qp [] ((p).filter (fun z => decide (z ∈ c1)))) a0 = (Qp [] (((p ++ [a0])).filter (fun z => decide (z ∈ c1)))) by (first | rfl | (simp [Qe]; done) | (simp [Qe, List.filter_append, *]; done))))
    replace S := S.front1
    replace S := S.reIt (p' := (Sl.encS (p ++ [a0]))) (congrArg Sl.encS (show p ++ [a0] = (p ++ [a0]) by (first | rfl | (simp [Qe]; done) | (simp [Qe, List.filter_append, *]; done))))
    exact ⟨(p ++ [a0]), ⟨c5, (a5.trans (b5.trans c3)), S, E.keep ⟨Y, Y, Y, trivial⟩, (by exact Yn (by assumption) (by assumption)), (by exact Yt (by assumption) (by assumption)), (by simp; omega)⟩, (by simp; omega)⟩
   ·refine Ja (ZN (JG ?_))
    replace S := S.front1
    replace S := S.reM (L' := (Sl.encS (Qp [] (((p ++ [a0])).filter (fun z => decide (z ∈ c1)))))) (congrArg Sl.encS (show (Qp [] ((p).filter (fun z => decide (z ∈ c1)))) = (Qp [] (((p ++ [a0])).filter (fun z => decide (z ∈ c1)))) by (first | rfl | (simp [Qe]; done) | (simp [Qe, List.filter_append, *]; done))))
    replace S := S.front1
    replace S := S.reIt (p' := (Sl.encS (p ++ [a0]))) (congrArg Sl.encS (show p ++ [a0] = (p ++ [a0]) by (first | rfl | (simp [Qe]; done) | (simp [Qe, List.filter_append, *]; done))))
    exact ⟨(p ++ [a0]), ⟨c9, (a5.trans b5), S, E.keep ⟨Y, Y, Y, trivial⟩, (by exact Yn (by assumption) (by assumption)), (by exact Yt (by assumption) (by assumption)), (by simp; omega)⟩, (by simp; omega)⟩
 ·refine QF (Qq E Y ?_)
  clear E a; intro a E
  refine QB (Jm E S Y Y Y (QR h1 (by first | assumption | omega)) lerf ?_)
  clear E a S; rintro a _ w b6 c4 rfl S E
  replace h0 := h0.le c4
  replace h1 := h1.le c4
  refine QB (YW E S Y JJ Y ?_)
  clear E a S; rintro a w a4 E S
  replace S : St w b6 (Qv a4 ([] : List Int) :: _) := S
  replace S := S.front1
  refine Jq (Wf E S Y Y (Tryz.sizeOf145 _) Y ?_)
  clear E a S; rintro a w E S
  refine QZ (Qq E Y ?_)
  clear E a; intro a E
  have hset := h1
  obtain ⟨sb1, sm1, sq1, se1, shb1, shm1, shn1, shq1⟩ := hset
  have shq1l : sq1.length ≤ c1.length := Qn shn1 fun z hz => (shq1 z).1 hz
  refine QS E (Qb E Y se1) fun _ B => zw B Y (QG B (congrArg some se1) Tryz.isAgg145 S.imm (Jn shb1)) Y ?_
  clear E a B; intro a E
  refine QB (Zz E S Y JJ shm1 Y ?_)
  clear E a S; rintro a w b7 es_21 ck_22 E b8 S
  replace S : St w b6 (Ys sm1 es_21 ck_22 b7 (Sl.encS ([] : List Int)) :: _) := S
  refine VJ ?_
  replace S := S.front2.front1.front1
  replace S := S.reM (L' := (Sl.encS (Qp [] (([]).filter (fun z => decide (z ∈ c0)))))) (congrArg Sl.encS (show ([] : List Int) = (Qp [] (([]).filter (fun z => decide (z ∈ c0)))) by (first | rfl | (simp [Qe]; done) | (simp [Qe, List.filter_append, *]; done))))
  replace S := S.front1
  replace S := S.reIt (p' := (Sl.encS [])) (congrArg Sl.encS (show ([] : List Int) = [] by (first | rfl | (simp [Qe]; done) | (simp [Qe, List.filter_append, *]; done))))
  refine Jb (γ := List Int) (fun (p : List Int) a w => ∃ (b9 : Hp), Hp.le b6 b9 ∧ St w b9 (Ys sm1 es_21 ck_22 b7 (Sl.encS p) :: Qv a4 (Qp [] ((p).filter (fun z => decide (z ∈ c0)))) :: Qh a2 (.cells #[.map (some a4)] 145) :: H) ∧ Env a 49 [] [(0, v0), (6, .pointer (some ⟨a2, 0, none⟩)), (38, .pointer (some ⟨b7, 0, none⟩))] ∧ (p.Nodup) ∧ (∀ z ∈ p, z ∈ sq1) ∧ (p.length ≤ sq1.length)) (fun p => sq1.length - p.length) [] ⟨b6, lerf, S, E.keep ⟨Y, Y, Y, trivial⟩, (by simp), (by simp), (by simp)⟩ ?_
  try clear E
  try clear S
  try clear a
  try clear w
  rintro p a w ⟨b9, a6, S, E, d9, e0, e1⟩
  replace h0 := h0.le a6
  replace b8 := b8.le a6
  refine QF ?_
  refine QB (ZK E S Y b8 Y (by assumption) (by assumption) ?_ ?_)
  ·clear E a S; rintro a E hpm_25 S
   refine Qj E Y Y ?_
   clear E a; intro a E
   refine ZB ?_
   refine QL E Y Y ?_
   refine Um (QS E (QV E Y Tryz.underlying116) fun _ B => Qx B Y ?_)
   clear E a B; intro a E
   refine JQ ?_
   replace S := S.drop.front1
   exact Qk E Tryz.results195 Y ⟨_, Y, b9, _, (a7.trans (a8.trans (c4.trans a6))), ⟨_, _, _, Y, Y, (by (first | assumption | exact Qt _ _ List.nodup_nil | exact Qt _ _ (Qt _ _ List.nodup_nil))), (by (first | (intro z; have ep := (List.Perm.mem_iff (a := z) (show p.Perm sq0 by first | assumption | (exact List.Perm.symm (by assumption)))).trans (shq0 z); simp only [JP, List.not_mem_nil, false_or, List.mem_append, List.mem_filter, decide_eq_true_eq, List.nil_append]; simp only [ep]) | (intro z; have ep := (List.Perm.mem_iff (a := z) (show p.Perm sq1 by first | assumption | (exact List.Perm.symm (by assumption)))).trans (shq1 z); simp only [JP, List.not_mem_nil, false_or, List.mem_filter, decide_eq_true_eq]; rw [ep]; exact And.comm)))⟩, S⟩
  ·clear E a S w; rintro a w a1 E hk_27 hk_27n hk_27l S
   refine Qj E Y Y ?_
   clear E a; intro a E
   refine ZB ?_
   refine Jj E Y Y ?_
   refine Ja (JG (Jw (QF (Zy (k := a1) (v := .agg #[]) E (by have S1 := S; simp only [Sl.encS, List.map_append, List.map_cons, List.map_nil] at S1; exact S1) b8 Y fun _ B => Qj B Y Y fun _ C => Qx C Y fun _ D => QZ (JR 2 D Y ?_)))))
   clear E a B C D; intro a E
   refine QB (Jm E S Y Y Y (ZQ h0 (by first | assumption | omega)) lerf ?_)
   clear E a S; rintro a _ w d1 c6 rfl S E
   refine Jx ?_
   refine QJ E Y (fun d2 => ?_) (fun d2 => ?_)
   ·refine Qr (Qq E Y ?_)
    clear E a; intro a E
    replace S := S.front1.front2
    refine QB (QI (p := [Qh a2 (.cells #[.map (some a4)] 145), Qv a4 (Qp [] ((p).filter (fun z => decide (z ∈ c0))))]) E S Y Y Y (GP) lerf ?_)
    clear E a S; rintro a _ w c7 _ d3 ⟨rfl, rfl⟩ S E
    replace S : St w c7 (Qh a2 (.cells #[.map (some a4)] 145) :: Qv a4 (Zr (Qp [] ((p).filter (fun z => decide (z ∈ c0)))) a1) :: Ys sm1 es_21 ck_22 b7 (Sl.encS (p ++ [a1])) :: H) := S
    refine QQ (ZN (JG ?_))
    replace S := S.front1.front2.front1
    replace S := S.reM (L' := (Sl.encS (Qp [] (((p ++ [a1])).filter (fun z => decide (z ∈ c0)))))) (congrArg Sl.encS (show Zr (Qp [] ((p).filter (fun z => decide (z ∈ c0)))) a1 = (Qp [] (((p ++ [a1])).filter (fun z => decide (z ∈ c0)))) by (first | rfl | (simp [Qe]; done) | (simp [Qe, List.filter_append, *]; done))))
    replace S := S.front1
    replace S := S.reIt (p' := (Sl.encS (p ++ [a1]))) (congrArg Sl.encS (show p ++ [a1] = (p ++ [a1]) by (first | rfl | (simp [Qe]; done) | (simp [Qe, List.filter_append, *]; done))))
    exact ⟨(p ++ [a1]), ⟨c7, (a6.trans (c6.trans d3)), S, E.keep ⟨Y, Y, Y, trivial⟩, (by exact Yn (by assumption) (by assumption)), (by exact Yt (by assumption) (by assumption)), (by simp; omega)⟩, (by simp; omega)⟩
   ·refine Ja (ZN (JG ?_))
    replace S := S.front1
    replace S := S.reM (L' := (Sl.encS (Qp [] (((p ++ [a1])).filter (fun z => decide (z ∈ c0)))))) (congrArg Sl.encS (show (Qp [] ((p).filter (fun z => decide (z ∈ c0)))) = (Qp [] (((p ++ [a1])).filter (fun z => decide (z ∈ c0)))) by (first | rfl | (simp [Qe]; done) | (simp [Qe, List.filter_append, *]; done))))
    replace S := S.front1
    replace S := S.reIt (p' := (Sl.encS (p ++ [a1]))) (congrArg Sl.encS (show p ++ [a1] = (p ++ [a1]) by (first | rfl | (simp [Qe]; done) | (simp [Qe, List.filter_append, *]; done))))
    exact ⟨(p ++ [a1]), ⟨d1, (a6.trans c6), S, E.keep ⟨Y, Y, Y, trivial⟩, (by exact Yn (by assumption) (by assumption)), (by exact Yt (by assumption) (by assumption)), (by simp; omega)⟩, (by simp; omega)⟩
theorem jy {M : Hp} {p0 : Nat} {v0 : Value} {c0 : List Int} (h0 : JH 145 M v0 c0) {p1 : Nat} {v1 : Value} {c1 : List Int} (h1 : JH 145 M v1 c1) (b0 : c0.length ≤ 1000000000) (b1 : c1.length ≤ 1000000000)  :
  Sp Tryz.prog (.func (.func 171) #[] #[]) M [.pointer (some ⟨p0, 0, none⟩), .iface 114 (.pointer (some ⟨p1, 0, none⟩))] [Qh p0 (.cells #[.int .i32 0, .int .u32 0, .int .u32 0, .int .u32 0, .int .i32 0, .int .i32 0, v0] 144), Qh p1 (.cells #[.int .i32 0, .int .u32 0, .int .u32 0, .int .u32 0, .int .i32 0, .int .i32 0, v1] 144)] (fun r M' C' => ∃ p_ b_ m_ l_, C' = [Qh p0 (.cells #[.int .i32 0, .int .u32 0, .int .u32 0, .int .u32 0, .int .i32 0, .int .i32 0, v0] 144), Qh p1 (.cells #[.int .i32 0, .int .u32 0, .int .u32 0, .int .u32 0, .int .i32 0, .int .i32 0, v1] 144), Qh p_ (.cells #[.int .i32 0, .int .u32 0, .int .u32 0, .int .u32 0, .int .i32 0, .int .i32 0, .pointer (some ⟨b_, 0, none⟩)] 144), Qh b_ (.cells #[.map (some m_)] 145), Qv m_ l_] ∧ r = .iface 114 (.pointer (some ⟨p_, 0, none⟩)) ∧ (l_.Nodup) ∧ (∀ z, z ∈ l_ ↔ z ∈ c0 ∧ z ∈ c1)) := by
 refine Qu Tryz.func171 Y Tryz.ntmps171 Y Tryz.call171 ?_
 intro a w M1 H hM1 S E
 replace S : St w M1 (Qh p0 (.cells #[.int .i32 0, .int .u32 0, .int .u32 0, .int .u32 0, .int .i32 0, .int .i32 0, v0] 144) :: Qh p1 (.cells #[.int .i32 0, .int .u32 0, .int .u32 0, .int .u32 0, .int .i32 0, .int .i32 0, v1] 144) :: _) := S
 replace h0 := h0.le hM1
 replace h1 := h1.le hM1
 have hset := h0
 obtain ⟨sb0, sm0, sq0, se0, shb0, shm0, shn0, shq0⟩ := hset
 have shq0l : sq0.length ≤ c0.length := Qn shn0 fun z hz => (shq0 z).1 hz
 have hset := h1
 obtain ⟨sb1, sm1, sq1, se1, shb1, shm1, shn1, shq1⟩ := hset
 have shq1l : sq1.length ≤ c1.length := Qn shn1 fun z hz => (shq1 z).1 hz
 refine QF (Qx E Y fun _ B => QZ (Qq B Y fun _ D => QS D (Jo D Y Tryz.underlying114 (by intro z hz; cases hz)) fun _ F => Qx F Y fun _ G => QZ (Qq G Y fun _ I => QS I (Qb I Y Y) fun _ J => Qa J Y (Qs _) ?_)))
 clear E a B D F G I J; intro a E
 replace S : St w M1 (LK p0 144 0 v0 :: _) := S
 refine QB (QI (p := [LK p0 144 0 v0]) E S Y Y Y (QX Tryz.rwRLib (T := 144) (n := 0) (by decide) (by decide)) lerf ?_)
 clear E a S; rintro a _ w a4 _ a2 ⟨rfl, rfl⟩ S E
 replace S : St w a4 (Qh p0 (.cells #[.int .i32 0, .int .u32 0, .int .u32 0, .int .u32 0, .int .i32 1, .int .i32 0, v0] 144) :: Qh p1 (.cells #[.int .i32 0, .int .u32 0, .int .u32 0, .int .u32 0, .int .i32 0, .int .i32 0, v1] 144) :: H) := S
 replace h0 := h0.le a2
 replace h1 := h1.le a2
 refine QZ (Qq E Y fun _ B => QS B (Qb B Y Y) fun _ D => Qa D Y (Qs _) ?_)
 clear E a B D; intro a E
 replace S := S.front1
 replace S : St w a4 (LK p1 144 0 v1 :: _) := S
 refine QB (QI (p := [LK p1 144 0 v1]) E S Y Y Y (QX Tryz.rwRLib (T := 144) (n := 0) (by decide) (by decide)) lerf ?_)
 clear E a S; rintro a _ w a5 _ a3 ⟨rfl, rfl⟩ S E
 replace S : St w a5 (Qh p1 (.cells #[.int .i32 0, .int .u32 0, .int .u32 0, .int .u32 0, .int .i32 1, .int .i32 0, v1] 144) :: Qh p0 (.cells #[.int .i32 0, .int .u32 0, .int .u32 0, .int .u32 0, .int .i32 1, .int .i32 0, v0] 144) :: H) := S
 replace h0 := h0.le a3
 replace h1 := h1.le a3
 refine ZB ?_
 replace S := S.mono_heap (w' := World.drew _) rfl
 refine QN (C := fun x w => agree a5 w ∧ (x = 3 → w.heap[p0]? = some (.cells #[.int .i32 0, .int .u32 0, .int .u32 0, .int .u32 0, .int .i32 1, .int .i32 0, v0] 144)) ∧ (x = 7 → w.heap[p1]? = some (.cells #[.int .i32 0, .int .u32 0, .int .u32 0, .int .u32 0, .int .i32 1, .int .i32 0, v1] 144))) (bf := (fun i => bif Nat.beq i 9 then [3, 7] else [])) [0, 1, 2, 3, 4, 5, 6, 7, 8, 10, 11] [0, 1, 2, 3, 4, 5, 6, 7, 8, 9, 10, 11] Tryz.mixed (by kernel_rfl) (fun x hq => ⟨S.imm, fun _ => (S.mem (.tail _ (.head _))), fun _ => (S.mem (.head _))⟩) ?_
 refine Qo E Y (fun w hC => (Qi E Y)) fun _ B => Qo B Y (fun w hC => (Qb B Y Y)) fun _ D => Qo D Y (fun w hC => (Ql D Y (QW _))) fun _ F => Qo F Y (fun w hC => (Jz F Y (Tryz.isAgg116 _) (QC (hC.2.1 Y) Y))) fun _ G => Qo G Y (fun w hC => (Qi G Y)) fun _ I => Qo I Y (fun w hC => (Qb I Y Y)) fun _ J => Qo J Y (fun w hC => (Ql J Y (QW _))) fun _ K => Qo K Y (fun w hC => (Jz K Y (Tryz.isAgg116 _) (QC (hC.2.2 Y) Y))) fun _ L => Qo L Y (fun w hC => (QV L Y Tryz.underlying116)) ?_
 clear E a B D F G I J K L; intro a E
 refine Zd Y Y Y (QI (p := []) E S Y Y Y (VL h0 h1 (by first | assumption | omega) (by first | assumption | omega)) lerf ?_)
 clear E a S; rintro a _ w a6 _ a7 ⟨a0, a1, l_6, rfl, rfl, b5, b6⟩ S E
 replace S : St w a6 (Qh a0 (.cells #[.map (some a1)] 145) :: Qv a1 l_6 :: Qh p1 (.cells #[.int .i32 0, .int .u32 0, .int .u32 0, .int .u32 0, .int .i32 1, .int .i32 0, v1] 144) :: Qh p0 (.cells #[.int .i32 0, .int .u32 0, .int .u32 0, .int .u32 0, .int .i32 1, .int .i32 0, v0] 144) :: H) := S
 refine ⟨fun x hq hb => ⟨(Qg a7 S.imm), (fun e => by subst e; exact absurd hb (by decide)), (fun e => by subst e; exact absurd hb (by decide))⟩, ?_⟩
 refine Qo E Y (fun w hC => (Jo E Y Tryz.underlying116 (by intro z hz; cases hz))) fun _ B => Qo B Y (fun w hC => (Qy B Y)) ?_
 clear E a B; intro a E
 refine Jv (Ju ?_)
 refine JG (QF (Qq E Y fun _ B => ZP (u := .agg #[.int .i32 0, .int .u32 0, .int .u32 0, .int .u32 0, .int .i32 0, .int .i32 0, .pointer (some ⟨a0, 0, none⟩)]) (vs := [.pointer (some ⟨a0, 0, none⟩)]) B Y (fun w => VQ _ w) ?_))
 clear E a B; intro a E
 refine QB (Yz (cs := #[.int .i32 0, .int .u32 0, .int .u32 0, .int .u32 0, .int .i32 0, .int .i32 0, .pointer (some ⟨a0, 0, none⟩)]) E S Y Y Y ?_)
 clear E a S; rintro a w a8 E S
 refine Qx E Y fun _ B => QZ (Qq B Y fun _ D => QS D (Qb D Y Y) fun _ F => Qa F Y (Qs _) ?_)
 clear E a B D F; intro a E
 replace S := S.front4
 replace S : St w a6 (LK p0 144 (0 + 1) v0 :: _) := S
 refine QB (QI (p := [LK p0 144 (0 + 1) v0]) E S Y Y Y (QP Tryz.rwRLib (T := 144) (n := 0) (by decide) (by decide)) lerf ?_)
 clear E a S; rintro a _ w a9 _ b3 ⟨rfl, rfl⟩ S E
 replace S : St w a9 (Qh p0 (.cells #[.int .i32 0, .int .u32 0, .int .u32 0, .int .u32 0, .int .i32 0, .int .i32 0, v0] 144) :: Qh a8 (.cells #[.int .i32 0, .int .u32 0, .int .u32 0, .int .u32 0, .int .i32 0, .int .i32 0, .pointer (some ⟨a0, 0, none⟩)] 144) :: Qh a0 (.cells #[.map (some a1)] 145) :: Qv a1 l_6 :: Qh p1 (.cells #[.int .i32 0, .int .u32 0, .int .u32 0, .int .u32 0, .int .i32 1, .int .i32 0, v1] 144) :: H) := S
 refine QZ (Qq E Y fun _ B => QS B (Qb B Y Y) fun _ D => Qa D Y (Qs _) ?_)
 clear E a B D; intro a E
 replace S := S.front4
 replace S : St w a9 (LK p1 144 (0 + 1) v1 :: _) := S
 refine QB (QI (p := [LK p1 144 (0 + 1) v1]) E S Y Y Y (QP Tryz.rwRLib (T := 144) (n := 0) (by decide) (by decide)) lerf ?_)
 clear E a S; rintro a _ w b2 _ b4 ⟨rfl, rfl⟩ S E
 replace S : St w b2 (Qh p1 (.cells #[.int .i32 0, .int .u32 0, .int .u32 0, .int .u32 0, .int .i32 0, .int .i32 0, v1] 144) :: Qh p0 (.cells #[.int .i32 0, .int .u32 0, .int .u32 0, .int .u32 0, .int .i32 0, .int .i32 0, v0] 144) :: Qh a8 (.cells #[.int .i32 0, .int .u32 0, .int .u32 0, .int .u32 0, .int .i32 0, .int .i32 0, .pointer (some ⟨a0, 0, none⟩)] 144) :: Qh a0 (.cells #[.map (some a1)] 145) :: Qv a1 l_6 :: H) := S
 refine QZ (Qq E Y fun _ B => QS B (QV B Y Tryz.underlying114) fun _ D => Qx D Y ?_)
 clear E a B D; intro a E
 refine JQ ?_
 replace S := S.front4.front4.front4.front3.front4
 exact Qk E Tryz.results171 Y ⟨_, Y, b2, _, (a2.trans (a3.trans (a7.trans (b3.trans b4)))), ⟨_, _, _, _, Y, Y, (by assumption), (by assumption)⟩, S⟩
theorem jD {M : Hp} {p0 : Nat} {v0 : Value} {c0 : List Int} (h0 : JH 145 M v0 c0) (b0 : c0.length ≤ 1000000000)  :
  Sp Tryz.prog (.func (.func 171) #[] #[]) M [.pointer (some ⟨p0, 0, none⟩), .iface 114 (.pointer (some ⟨p0, 0, none⟩))] [Qh p0 (.cells #[.int .i32 0, .int .u32 0, .int .u32 0, .int .u32 0, .int .i32 0, .int .i32 0, v0] 144)] (fun r M' C' => ∃ p_ b_ m_ l_, C' = [Qh p0 (.cells #[.int .i32 0, .int .u32 0, .int .u32 0, .int .u32 0, .int .i32 0, .int .i32 0, v0] 144), Qh p_ (.cells #[.int .i32 0, .int .u32 0, .int .u32 0, .int .u32 0, .int .i32 0, .int .i32 0, .pointer (some ⟨b_, 0, none⟩)] 144), Qh b_ (.cells #[.map (some m_)] 145), Qv m_ l_] ∧ r = .iface 114 (.pointer (some ⟨p_, 0, none⟩)) ∧ (l_.Nodup) ∧ (∀ z, z ∈ l_ ↔ z ∈ c0 ∧ z ∈ c0)) := by
 refine Qu Tryz.func171 Y Tryz.ntmps171 Y Tryz.call171 ?_
 intro a w M1 H hM1 S E
 replace S : St w M1 (Qh p0 (.cells #[.int .i32 0, .int .u32 0, .int .u32 0, .int .u32 0, .int .i32 0, .int .i32 0, v0] 144) :: _) := S
 replace h0 := h0.le hM1
 have hset := h0
 obtain ⟨sb0, sm0, sq0, se0, shb0, shm0, shn0, shq0⟩ := hset
 have shq0l : sq0.length ≤ c0.length := Qn shn0 fun z hz => (shq0 z).1 hz
 refine QF (Qx E Y fun _ B => QZ (Qq B Y fun _ D => QS D (Jo D Y Tryz.underlying114 (by intro z hz; cases hz)) fun _ F => Qx F Y fun _ G => QZ (Qq G Y fun _ I => QS I (Qb I Y Y) fun _ J => Qa J Y (Qs _) ?_)))
 clear E a B D F G I J; intro a E
 replace S : St w M1 (LK p0 144 0 v0 :: _) := S
 refine QB (QI (p := [LK p0 144 0 v0]) E S Y Y Y (QX Tryz.rwRLib (T := 144) (n := 0) (by decide) (by decide)) lerf ?_)
 clear E a S; rintro a _ w a2 _ a3 ⟨rfl, rfl⟩ S E
 replace S : St w a2 (Qh p0 (.cells #[.int .i32 0, .int .u32 0, .int .u32 0, .int .u32 0, .int .i32 1, .int .i32 0, v0] 144) :: H) := S
 replace h0 := h0.le a3
 refine QZ (Qq E Y fun _ B => QS B (Qb B Y Y) fun _ D => Qa D Y (Qs _) ?_)
 clear E a B D; intro a E
 replace S : St w a2 (LK p0 144 1 v0 :: _) := S
 refine QB (QI (p := [LK p0 144 1 v0]) E S Y Y Y (QX Tryz.rwRLib (T := 144) (n := 1) (by decide) (by decide)) lerf ?_)
 clear E a S; rintro a _ w a4 _ a5 ⟨rfl, rfl⟩ S E
 replace S : St w a4 (Qh p0 (.cells #[.int .i32 0, .int .u32 0, .int .u32 0, .int .u32 0, .int .i32 2, .int .i32 0, v0] 144) :: H) := S
 replace h0 := h0.le a5
 refine ZB ?_
 replace S := S.mono_heap (w' := World.drew _) rfl
 refine QN (C := fun x w => agree a4 w ∧ (x = 3 → w.heap[p0]? = some (.cells #[.int .i32 0, .int .u32 0, .int .u32 0, .int .u32 0, .int .i32 2, .int .i32 0, v0] 144)) ∧ (x = 7 → w.heap[p0]? = some (.cells #[.int .i32 0, .int .u32 0, .int .u32 0, .int .u32 0, .int .i32 2, .int .i32 0, v0] 144))) (bf := (fun i => bif Nat.beq i 9 then [3, 7] else [])) [0, 1, 2, 3, 4, 5, 6, 7, 8, 10, 11] [0, 1, 2, 3, 4, 5, 6, 7, 8, 9, 10, 11] Tryz.mixed (by kernel_rfl) (fun x hq => ⟨S.imm, fun _ => (S.mem (.head _)), fun _ => (S.mem (.head _))⟩) ?_
 refine Qo E Y (fun w hC => (Qi E Y)) fun _ B => Qo B Y (fun w hC => (Qb B Y Y)) fun _ D => Qo D Y (fun w hC => (Ql D Y (QW _))) fun _ F => Qo F Y (fun w hC => (Jz F Y (Tryz.isAgg116 _) (QC (hC.2.1 Y) Y))) fun _ G => Qo G Y (fun w hC => (Qi G Y)) fun _ I => Qo I Y (fun w hC => (Qb I Y Y)) fun _ J => Qo J Y (fun w hC => (Ql J Y (QW _))) fun _ K => Qo K Y (fun w hC => (Jz K Y (Tryz.isAgg116 _) (QC (hC.2.2 Y) Y))) fun _ L => Qo L Y (fun w hC => (QV L Y Tryz.underlying116)) ?_
 clear E a B D F G I J K L; intro a E
 refine Zd Y Y Y (QI (p := []) E S Y Y Y (VL h0 h0 (by first | assumption | omega) (by first | assumption | omega)) lerf ?_)
 clear E a S; rintro a _ w a6 _ a7 ⟨a0, a1, l_6, rfl, rfl, b4, b5⟩ S E
 replace S : St w a6 (Qh a0 (.cells #[.map (some a1)] 145) :: Qv a1 l_6 :: Qh p0 (.cells #[.int .i32 0, .int .u32 0, .int .u32 0, .int .u32 0, .int .i32 2, .int .i32 0, v0] 144) :: H) := S
 refine ⟨fun x hq hb => ⟨(Qg a7 S.imm), (fun e => by subst e; exact absurd hb (by decide)), (fun e => by subst e; exact absurd hb (by decide))⟩, ?_⟩
 refine Qo E Y (fun w hC => (Jo E Y Tryz.underlying116 (by intro z hz; cases hz))) fun _ B => Qo B Y (fun w hC => (Qy B Y)) ?_
 clear E a B; intro a E
 refine Jv (Ju ?_)
 refine JG (QF (Qq E Y fun _ B => ZP (u := .agg #[.int .i32 0, .int .u32 0, .int .u32 0, .int .u32 0, .int .i32 0, .int .i32 0, .pointer (some ⟨a0, 0, none⟩)]) (vs := [.pointer (some ⟨a0, 0, none⟩)]) B Y (fun w => VQ _ w) ?_))
 clear E a B; intro a E
 refine QB (Yz (cs := #[.int .i32 0, .int .u32 0, .int .u32 0, .int .u32 0, .int .i32 0, .int .i32 0, .pointer (some ⟨a0, 0, none⟩)]) E S Y Y Y ?_)
 clear E a S; rintro a w a8 E S
 refine Qx E Y fun _ B => QZ (Qq B Y fun _ D => QS D (Qb D Y Y) fun _ F => Qa F Y (Qs _) ?_)
 clear E a B D F; intro a E
 replace S := S.front3
 replace S : St w a6 (LK p0 144 (1 + 1) v0 :: _) := S
 refine QB (QI (p := [LK p0 144 (1 + 1) v0]) E S Y Y Y (QP Tryz.rwRLib (T := 144) (n := 1) (by decide) (by decide)) lerf ?_)
 clear E a S; rintro a _ w a9 _ b2 ⟨rfl, rfl⟩ S E
 replace S : St w a9 (Qh p0 (.cells #[.int .i32 0, .int .u32 0, .int .u32 0, .int .u32 0, .int .i32 1, .int .i32 0, v0] 144) :: Qh a8 (.cells #[.int .i32 0, .int .u32 0, .int .u32 0, .int .u32 0, .int .i32 0, .int .i32 0, .pointer (some ⟨a0, 0, none⟩)] 144) :: Qh a0 (.cells #[.map (some a1)] 145) :: Qv a1 l_6 :: H) := S
 refine QZ (Qq E Y fun _ B => QS B (Qb B Y Y) fun _ D => Qa D Y (Qs _) ?_)
 clear E a B D; intro a E
 replace S : St w a9 (LK p0 144 (0 + 1) v0 :: _) := S
 refine QB (QI (p := [LK p0 144 (0 + 1) v0]) E S Y Y Y (QP Tryz.rwRLib (T := 144) (n := 0) (by decide) (by decide)) lerf ?_)
 clear E a S; rintro a _ w b1 _ b3 ⟨rfl, rfl⟩ S E
 replace S : St w b1 (Qh p0 (.cells #[.int .i32 0, .int .u32 0, .int .u32 0, .int .u32 0, .int .i32 0, .int .i32 0, v0] 144) :: Qh a8 (.cells #[.int .i32 0, .int .u32 0, .int .u32 0, .int .u32 0, .int .i32 0, .int .i32 0, .pointer (some ⟨a0, 0, none⟩)] 144) :: Qh a0 (.cells #[.map (some a1)] 145) :: Qv a1 l_6 :: H) := S
 refine QZ (Qq E Y fun _ B => QS B (QV B Y Tryz.underlying114) fun _ D => Qx D Y ?_)
 clear E a B D; intro a E
 refine JQ ?_
 replace S := S.front3.front3.front3.front3
 exact Qk E Tryz.results171 Y ⟨_, Y, b1, _, (a3.trans (a5.trans (a7.trans (b2.trans b3)))), ⟨_, _, _, _, Y, Y, (by assumption), (by assumption)⟩, S⟩
theorem zm {M : Hp} {x0 : Bool} {v : Value} {t : List RG} {i : Nat} {x : RG} {j : Nat} {y : RG} (hx : t[i]? = some x) (hy : t[j]? = some y) (hb : x.2.2.length ≤ 1000000000) (hb2 : y.2.2.length ≤ 1000000000) :
  QD Tryz.prog (Zx KS x0 x) "Intersect" M [Zx KS x0 y] [QK KS x0 v t] (fun r _ C' => ∃ D, C' = QK KS x0 v t :: D ∧ ∃ x' : RG, r = Zx KS x0 x' ∧ x'.2.2 = ZD x.2.2 y.2.2 ∧ D = [YO KS x0 x']) := by
 refine ZX hx hy (fun M' hM hr hs => ?_) (fun e9 M' hM hr => ?_)
 ·cases x0
  ·exact ZM (F := [Zc KS false x, Zc KS false y]) (jk (QD.of_sp (fun w => VA _ w) Tryz.call195 (JT (VL hr hs hb hb2) fun r M2 C ⟨b, m, l, h1, h2, h3, h4⟩ => ⟨b, m, l, h1, h2, h3, fun z => (h4 z).trans (by rw [UW])⟩))) fun r M2 C h => h
  ·exact vj (K := KS) (QD.of_sp (fun w => VB _ w) Tryz.call171 (JT (jy hr hs hb hb2) fun r M2 C ⟨p, b, m, l, h1, h2, h3, h4⟩ => ⟨p, b, m, l, h1, h2, h3, fun z => (h4 z).trans (by rw [UW])⟩))
 ·subst e9
  cases x0
  ·exact ZM (F := [Zc KS false y]) (jk (QD.of_sp (fun w => VA _ w) Tryz.call195 (JT (VL hr hr hb hb) fun r M2 C ⟨b, m, l, h1, h2, h3, h4⟩ => ⟨b, m, l, h1, h2, h3, fun z => (h4 z).trans (by rw [UW])⟩))) fun r M2 C h => h
  ·exact jZ (K := KS) (QD.of_sp (fun w => VB _ w) Tryz.call171 (JT (jD hr hb) fun r M2 C ⟨p, b, m, l, h1, h2, h3, h4⟩ => ⟨p, b, m, l, h1, h2, h3, fun z => (h4 z).trans (by rw [UW])⟩))
theorem Vw {M : Hp} {v0 : Value} {c0 : List Int} (h0 : JH 145 M v0 c0) {v1 : Value} {c1 : List Int} (h1 : JH 145 M v1 c1) (b0 : c0.length ≤ 1000000000) (b1 : c1.length ≤ 1000000000)  :
  Sp Tryz.prog (.func (.func 193) #[] #[]) M [v0, .iface 116 v1] [] (fun r M' C' => ∃ b_ m_ l_, C' = [Qh b_ (.cells #[.map (some m_)] 145), Qv m_ l_] ∧ r = .iface 116 (.pointer (some ⟨b_, 0, none⟩)) ∧ (l_.Nodup) ∧ (∀ z, z ∈ l_ ↔ z ∈ c0 ∧ z ∉ c1)) := by
 refine Qu Tryz.func193 Y Tryz.ntmps193 Y Tryz.call193 ?_
 intro a w M1 H hM1 S E
 replace h0 := h0.le hM1
 replace h1 := h1.le hM1
 have hcl0 := JY c0
 have hcl1 := JY c1
 refine QF (Qx E Y fun _ B => QZ (Qq B Y fun _ C => QS C (Jo C Y Tryz.underlying116 (by intro z hz; cases hz)) fun _ D => Qx D Y fun _ F => QZ (Qq F Y ?_)))
 clear E a B C D F; intro a E
 refine QB (Jm E S Y Y Y (QR h0 (by first | assumption | omega)) lerf ?_)
 clear E a S; rintro a _ w a3 a8 rfl S E
 replace h0 := h0.le a8
 replace h1 := h1.le a8
 refine QB (YW E S Y JJ Y ?_)
 clear E a S; rintro a w a1 E S
 replace S : St w a3 (Qv a1 ([] : List Int) :: _) := S
 refine QB (ZL (cs := #[.map none]) E S Y Tryz.zeroValue145 Y ?_)
 clear E a S; rintro a w a4 E S
 refine Jq (Wf E S Y Y (Tryz.sizeOf145 _) Y ?_)
 clear E a S; rintro a w E S
 refine VM (Qq E Y ?_)
 clear E a; intro a E
 have hset := h0
 obtain ⟨sb0, sm0, sq0, se0, shb0, shm0, shn0, shq0⟩ := hset
 have shq0l : sq0.length ≤ c0.length := Qn shn0 fun z hz => (shq0 z).1 hz
 refine QS E (Qb E Y se0) fun _ B => zw B Y (QG B (congrArg some se0) Tryz.isAgg145 S.imm (Jn shb0)) Y ?_
 clear E a B; intro a E
 refine QB (Zz E S Y JJ shm0 Y ?_)
 clear E a S; rintro a w a5 es_5 ck_6 E a6 S
 replace S : St w a3 (Ys sm0 es_5 ck_6 a5 (Sl.encS ([] : List Int)) :: _) := S
 refine VJ ?_
 replace S := S.front2.front1.front1
 replace S := S.reM (L' := (Sl.encS (Qp [] (([]).filter (fun z => decide (z ∉ c1)))))) (congrArg Sl.encS (show ([] : List Int) = (Qp [] (([]).filter (fun z => decide (z ∉ c1)))) by (first | rfl | (simp [Qe]; done) | (simp [Qe, List.filter_append, *]; done))))
 replace S := S.front1
 replace S := S.reIt (p' := (Sl.encS [])) (congrArg Sl.encS (show ([] : List Int) = [] by (first | rfl | (simp [Qe]; done) | (simp [Qe, List.filter_append, *]; done))))
 refine Jb (γ := List Int) (fun (p : List Int) a w => ∃ (a7 : Hp), Hp.le a3 a7 ∧ St w a7 (Ys sm0 es_5 ck_6 a5 (Sl.encS p) :: Qv a1 (Qp [] ((p).filter (fun z => decide (z ∉ c1)))) :: Qh a4 (.cells #[.map (some a1)] 145) :: H) ∧ Env a 28 [] [(5, v1), (6, .pointer (some ⟨a4, 0, none⟩)), (16, .pointer (some ⟨a5, 0, none⟩))] ∧ (p.Nodup) ∧ (∀ z ∈ p, z ∈ sq0) ∧ (p.length ≤ sq0.length)) (fun p => sq0.length - p.length) [] ⟨a3, lerf, S, E.keep ⟨Y, Y, Y, trivial⟩, (by simp), (by simp), (by simp)⟩ ?_
 try clear E
 try clear S
 try clear a
 try clear w
 rintro p a w ⟨a7, a2, S, E, b6, b7, b8⟩
 replace h1 := h1.le a2
 replace a6 := a6.le a2
 refine QF ?_
 refine QB (ZK E S Y a6 Y (by assumption) (by assumption) ?_ ?_)
 ·clear E a S; rintro a E hpm_9 S
  refine Qj E Y Y ?_
  clear E a; intro a E
  refine ZB ?_
  refine QL E Y Y ?_
  refine Um (QS E (QV E Y Tryz.underlying116) fun _ B => Qx B Y ?_)
  clear E a B; intro a E
  refine JQ ?_
  replace S := S.drop.front1
  exact Qk E Tryz.results193 Y ⟨_, Y, a7, _, (a8.trans a2), ⟨_, _, _, Y, Y, (by (first | assumption | exact Qt _ _ List.nodup_nil | exact Qt _ _ (Qt _ _ List.nodup_nil))), (by (intro z; have ep := (List.Perm.mem_iff (a := z) (show p.Perm sq0 by first | assumption | (exact List.Perm.symm (by assumption)))).trans (shq0 z); simp only [JP, List.not_mem_nil, false_or, List.mem_append, List.mem_filter, decide_eq_true_eq, List.nil_append]; simp only [ep]))⟩, S⟩
 ·clear E a S w; rintro a w a0 E hk_11 hk_11n hk_11l S
  refine Qj E Y Y ?_
  clear E a; intro a E
  refine ZB ?_
  refine Jj E Y Y ?_
  refine Ja (JG (Jw (QF (Zy (k := a0) (v := .agg #[]) E (by have S1 := S; simp only [Sl.encS, List.map_append, List.map_cons, List.map_nil] at S1; exact S1) a6 Y fun _ B => Qj B Y Y fun _ C => Qx C Y fun _ D => QZ (JR 2 D Y ?_)))))
  clear E a B C D; intro a E
  refine QB (Jm E S Y Y Y (ZQ h1 (by first | assumption | omega)) lerf ?_)
  clear E a S; rintro a _ w b3 a9 rfl S E
  refine Zk E Y ?_
  clear E a; intro a E
  refine Jx ?_
  refine Yl E Y (fun b4 => ?_) (fun b4 => ?_)
  ·refine Qr ?_
   refine Qq E Y ?_
   clear E a; intro a E
   replace S := S.front1.front2
   refine QB (QI (p := [Qh a4 (.cells #[.map (some a1)] 145), Qv a1 (Qp [] ((p).filter (fun z => decide (z ∉ c1))))]) E S Y Y Y (GP) lerf ?_)
   clear E a S; rintro a _ w b2 _ b5 ⟨rfl, rfl⟩ S E
   replace S : St w b2 (Qh a4 (.cells #[.map (some a1)] 145) :: Qv a1 (Zr (Qp [] ((p).filter (fun z => decide (z ∉ c1)))) a0) :: Ys sm0 es_5 ck_6 a5 (Sl.encS (p ++ [a0])) :: H) := S
   refine QQ (ZN (JG ?_))
   replace S := S.front1.front2.front1
   replace S := S.reM (L' := (Sl.encS (Qp [] (((p ++ [a0])).filter (fun z => decide (z ∉ c1)))))) (congrArg Sl.encS (show Zr (Qp [] ((p).filter (fun z => decide (z ∉ c1)))) a0 = (Qp [] (((p ++ [a0])).filter (fun z => decide (z ∉ c1)))) by (first | rfl | (simp [Qe]; done) | (simp [Qe, List.filter_append, *]; done))))
   replace S := S.front1
   replace S := S.reIt (p' := (Sl.encS (p ++ [a0]))) (congrArg Sl.encS (show p ++ [a0] = (p ++ [a0]) by (first | rfl | (simp [Qe]; done) | (simp [Qe, List.filter_append, *]; done))))
   exact ⟨(p ++ [a0]), ⟨b2, (a2.trans (a9.trans b5)), S, E.keep ⟨Y, Y, Y, trivial⟩, (by exact Yn (by assumption) (by assumption)), (by exact Yt (by assumption) (by assumption)), (by simp; omega)⟩, (by simp; omega)⟩
  ·refine Ja ?_
   refine ZN (JG ?_)
   replace S := S.front1
   replace S := S.reM (L' := (Sl.encS (Qp [] (((p ++ [a0])).filter (fun z => decide (z ∉ c1)))))) (congrArg Sl.encS (show (Qp [] ((p).filter (fun z => decide (z ∉ c1)))) = (Qp [] (((p ++ [a0])).filter (fun z => decide (z ∉ c1)))) by (first | rfl | (simp [Qe]; done) | (simp [Qe, List.filter_append, *]; done))))
   replace S := S.front1
   replace S := S.reIt (p' := (Sl.encS (p ++ [a0]))) (congrArg Sl.encS (show p ++ [a0] = (p ++ [a0]) by (first | rfl | (simp [Qe]; done) | (simp [Qe, List.filter_append, *]; done))))
   exact ⟨(p ++ [a0]), ⟨b3, (a2.trans a9), S, E.keep ⟨Y, Y, Y, trivial⟩, (by exact Yn (by assumption) (by assumption)), (by exact Yt (by assumption) (by assumption)), (by simp; omega)⟩, (by simp; omega)⟩
theorem zB {M : Hp} {p0 : Nat} {v0 : Value} {c0 : List Int} (h0 : JH 145 M v0 c0) {p1 : Nat} {v1 : Value} {c1 : List Int} (h1 : JH 145 M v1 c1) (b0 : c0.length ≤ 1000000000) (b1 : c1.length ≤ 1000000000)  :
  Sp Tryz.prog (.func (.func 168) #[] #[]) M [.pointer (some ⟨p0, 0, none⟩), .iface 114 (.pointer (some ⟨p1, 0, none⟩))] [Qh p0 (.cells #[.int .i32 0, .int .u32 0, .int .u32 0, .int .u32 0, .int .i32 0, .int .i32 0, v0] 144), Qh p1 (.cells #[.int .i32 0, .int .u32 0, .int .u32 0, .int .u32 0, .int .i32 0, .int .i32 0, v1] 144)] (fun r M' C' => ∃ p_ b_ m_ l_, C' = [Qh p0 (.cells #[.int .i32 0, .int .u32 0, .int .u32 0, .int .u32 0, .int .i32 0, .int .i32 0, v0] 144), Qh p1 (.cells #[.int .i32 0, .int .u32 0, .int .u32 0, .int .u32 0, .int .i32 0, .int .i32 0, v1] 144), Qh p_ (.cells #[.int .i32 0, .int .u32 0, .int .u32 0, .int .u32 0, .int .i32 0, .int .i32 0, .pointer (some ⟨b_, 0, none⟩)] 144), Qh b_ (.cells #[.map (some m_)] 145), Qv m_ l_] ∧ r = .iface 114 (.pointer (some ⟨p_, 0, none⟩)) ∧ (l_.Nodup) ∧ (∀ z, z ∈ l_ ↔ z ∈ c0 ∧ z ∉ c1)) := by
 refine Qu Tryz.func168 Y Tryz.ntmps168 Y Tryz.call168 ?_
 intro a w M1 H hM1 S E
 replace S : St w M1 (Qh p0 (.cells #[.int .i32 0, .int .u32 0, .int .u32 0, .int .u32 0, .int .i32 0, .int .i32 0, v0] 144) :: Qh p1 (.cells #[.int .i32 0, .int .u32 0, .int .u32 0, .int .u32 0, .int .i32 0, .int .i32 0, v1] 144) :: _) := S
 replace h0 := h0.le hM1
 replace h1 := h1.le hM1
 have hset := h0
 obtain ⟨sb0, sm0, sq0, se0, shb0, shm0, shn0, shq0⟩ := hset
 have shq0l : sq0.length ≤ c0.length := Qn shn0 fun z hz => (shq0 z).1 hz
 have hset := h1
 obtain ⟨sb1, sm1, sq1, se1, shb1, shm1, shn1, shq1⟩ := hset
 have shq1l : sq1.length ≤ c1.length := Qn shn1 fun z hz => (shq1 z).1 hz
 refine QF (Qx E Y fun _ B => QZ (Qq B Y fun _ D => QS D (Jo D Y Tryz.underlying114 (by intro z hz; cases hz)) fun _ F => Qx F Y fun _ G => QZ (Qq G Y fun _ I => QS I (Qb I Y Y) fun _ J => Qa J Y (Qs _) ?_)))
 clear E a B D F G I J; intro a E
 replace S : St w M1 (LK p0 144 0 v0 :: _) := S
 refine QB (QI (p := [LK p0 144 0 v0]) E S Y Y Y (QX Tryz.rwRLib (T := 144) (n := 0) (by decide) (by decide)) lerf ?_)
 clear E a S; rintro a _ w a4 _ a2 ⟨rfl, rfl⟩ S E
 replace S : St w a4 (Qh p0 (.cells #[.int .i32 0, .int .u32 0, .int .u32 0, .int .u32 0, .int .i32 1, .int .i32 0, v0] 144) :: Qh p1 (.cells #[.int .i32 0, .int .u32 0, .int .u32 0, .int .u32 0, .int .i32 0, .int .i32 0, v1] 144) :: H) := S
 replace h0 := h0.le a2
 replace h1 := h1.le a2
 refine QZ (Qq E Y fun _ B => QS B (Qb B Y Y) fun _ D => Qa D Y (Qs _) ?_)
 clear E a B D; intro a E
 replace S := S.front1
 replace S : St w a4 (LK p1 144 0 v1 :: _) := S
 refine QB (QI (p := [LK p1 144 0 v1]) E S Y Y Y (QX Tryz.rwRLib (T := 144) (n := 0) (by decide) (by decide)) lerf ?_)
 clear E a S; rintro a _ w a5 _ a3 ⟨rfl, rfl⟩ S E
 replace S : St w a5 (Qh p1 (.cells #[.int .i32 0, .int .u32 0, .int .u32 0, .int .u32 0, .int .i32 1, .int .i32 0, v1] 144) :: Qh p0 (.cells #[.int .i32 0, .int .u32 0, .int .u32 0, .int .u32 0, .int .i32 1, .int .i32 0, v0] 144) :: H) := S
 replace h0 := h0.le a3
 replace h1 := h1.le a3
 refine ZB ?_
 replace S := S.mono_heap (w' := World.drew _) rfl
 refine QN (C := fun x w => agree a5 w ∧ (x = 3 → w.heap[p0]? = some (.cells #[.int .i32 0, .int .u32 0, .int .u32 0, .int .u32 0, .int .i32 1, .int .i32 0, v0] 144)) ∧ (x = 7 → w.heap[p1]? = some (.cells #[.int .i32 0, .int .u32 0, .int .u32 0, .int .u32 0, .int .i32 1, .int .i32 0, v1] 144))) (bf := (fun i => bif Nat.beq i 9 then [3, 7] else [])) [0, 1, 2, 3, 4, 5, 6, 7, 8, 10, 11] [0, 1, 2, 3, 4, 5, 6, 7, 8, 9, 10, 11] Tryz.mixed (by kernel_rfl) (fun x hq => ⟨S.imm, fun _ => (S.mem (.tail _ (.head _))), fun _ => (S.mem (.head _))⟩) ?_
 refine Qo E Y (fun w hC => (Qi E Y)) fun _ B => Qo B Y (fun w hC => (Qb B Y Y)) fun _ D => Qo D Y (fun w hC => (Ql D Y (QW _))) fun _ F => Qo F Y (fun w hC => (Jz F Y (Tryz.isAgg116 _) (QC (hC.2.1 Y) Y))) fun _ G => Qo G Y (fun w hC => (Qi G Y)) fun _ I => Qo I Y (fun w hC => (Qb I Y Y)) fun _ J => Qo J Y (fun w hC => (Ql J Y (QW _))) fun _ K => Qo K Y (fun w hC => (Jz K Y (Tryz.isAgg116 _) (QC (hC.2.2 Y) Y))) fun _ L => Qo L Y (fun w hC => (QV L Y Tryz.underlying116)) ?_
 clear E a B D F G I J K L; intro a E
 refine Zd Y Y Y (QI (p := []) E S Y Y Y (Vw h0 h1 (by first | assumption | omega) (by first | assumption | omega)) lerf ?_)
 clear E a S; rintro a _ w a6 _ a7 ⟨a0, a1, l_6, rfl, rfl, b5, b6⟩ S E
 replace S : St w a6 (Qh a0 (.cells #[.map (some a1)] 145) :: Qv a1 l_6 :: Qh p1 (.cells #[.int .i32 0, .int .u32 0, .int .u32 0, .int .u32 0, .int .i32 1, .int .i32 0, v1] 144) :: Qh p0 (.cells #[.int .i32 0, .int .u32 0, .int .u32 0, .int .u32 0, .int .i32 1, .int .i32 0, v0] 144) :: H) := S
 refine ⟨fun x hq hb => ⟨(Qg a7 S.imm), (fun e => by subst e; exact absurd hb (by decide)), (fun e => by subst e; exact absurd hb (by decide))⟩, ?_⟩
 refine Qo E Y (fun w hC => (Jo E Y Tryz.underlying116 (by intro z hz; cases hz))) fun _ B => Qo B Y (fun w hC => (Qy B Y)) ?_
 clear E a B; intro a E
 refine Jv (Ju ?_)
 refine JG (QF (Qq E Y fun _ B => ZP (u := .agg #[.int .i32 0, .int .u32 0, .int .u32 0, .int .u32 0, .int .i32 0, .int .i32 0, .pointer (some ⟨a0, 0, none⟩)]) (vs := [.pointer (some ⟨a0, 0, none⟩)]) B Y (fun w => VQ _ w) ?_))
 clear E a B; intro a E
 refine QB (Yz (cs := #[.int .i32 0, .int .u32 0, .int .u32 0, .int .u32 0, .int .i32 0, .int .i32 0, .pointer (some ⟨a0, 0, none⟩)]) E S Y Y Y ?_)
 clear E a S; rintro a w a8 E S
 refine Qx E Y fun _ B => QZ (Qq B Y fun _ D => QS D (Qb D Y Y) fun _ F => Qa F Y (Qs _) ?_)
 clear E a B D F; intro a E
 replace S := S.front4
 replace S : St w a6 (LK p0 144 (0 + 1) v0 :: _) := S
 refine QB (QI (p := [LK p0 144 (0 + 1) v0]) E S Y Y Y (QP Tryz.rwRLib (T := 144) (n := 0) (by decide) (by decide)) lerf ?_)
 clear E a S; rintro a _ w a9 _ b3 ⟨rfl, rfl⟩ S E
 replace S : St w a9 (Qh p0 (.cells #[.int .i32 0, .int .u32 0, .int .u32 0, .int .u32 0, .int .i32 0, .int .i32 0, v0] 144) :: Qh a8 (.cells #[.int .i32 0, .int .u32 0, .int .u32 0, .int .u32 0, .int .i32 0, .int .i32 0, .pointer (some ⟨a0, 0, none⟩)] 144) :: Qh a0 (.cells #[.map (some a1)] 145) :: Qv a1 l_6 :: Qh p1 (.cells #[.int .i32 0, .int .u32 0, .int .u32 0, .int .u32 0, .int .i32 1, .int .i32 0, v1] 144) :: H) := S
 refine QZ (Qq E Y fun _ B => QS B (Qb B Y Y) fun _ D => Qa D Y (Qs _) ?_)
 clear E a B D; intro a E
 replace S := S.front4
 replace S : St w a9 (LK p1 144 (0 + 1) v1 :: _) := S
 refine QB (QI (p := [LK p1 144 (0 + 1) v1]) E S Y Y Y (QP Tryz.rwRLib (T := 144) (n := 0) (by decide) (by decide)) lerf ?_)
 clear E a S; rintro a _ w b2 _ b4 ⟨rfl, rfl⟩ S E
 replace S : St w b2 (Qh p1 (.cells #[.int .i32 0, .int .u32 0, .int .u32 0, .int .u32 0, .int .i32 0, .int .i32 0, v1] 144) :: Qh p0 (.cells #[.int .i32 0, .int .u32 0, .int .u32 0, .int .u32 0, .int .i32 0, .int .i32 0, v0] 144) :: Qh a8 (.cells #[.int .i32 0, .int .u32 0, .int .u32 0, .int .u32 0, .int .i32 0, .int .i32 0, .pointer (some ⟨a0, 0, none⟩)] 144) :: Qh a0 (.cells #[.map (some a1)] 145) :: Qv a1 l_6 :: H) := S
 refine QZ (Qq E Y fun _ B => QS B (QV B Y Tryz.underlying114) fun _ D => Qx D Y ?_)
 clear E a B D; intro a E
 refine JQ ?_
 replace S := S.front4.front4.front4.front3.front4
 exact Qk E Tryz.results168 Y ⟨_, Y, b2, _, (a2.trans (a3.trans (a7.trans (b3.trans b4)))), ⟨_, _, _, _, Y, Y, (by assumption), (by assumption)⟩, S⟩
theorem zE {M : Hp} {p0 : Nat} {v0 : Value} {c0 : List Int} (h0 : JH 145 M v0 c0) (b0 : c0.length ≤ 1000000000)  :
  Sp Tryz.prog (.func (.func 168) #[] #[]) M [.pointer (some ⟨p0, 0, none⟩), .iface 114 (.pointer (some ⟨p0, 0, none⟩))] [Qh p0 (.cells #[.int .i32 0, .int .u32 0, .int .u32 0, .int .u32 0, .int .i32 0, .int .i32 0, v0] 144)] (fun r M' C' => ∃ p_ b_ m_ l_, C' = [Qh p0 (.cells #[.int .i32 0, .int .u32 0, .int .u32 0, .int .u32 0, .int .i32 0, .int .i32 0, v0] 144), Qh p_ (.cells #[.int .i32 0, .int .u32 0, .int .u32 0, .int .u32 0, .int .i32 0, .int .i32 0, .pointer (some ⟨b_, 0, none⟩)] 144), Qh b_ (.cells #[.map (some m_)] 145), Qv m_ l_] ∧ r = .iface 114 (.pointer (some ⟨p_, 0, none⟩)) ∧ (l_.Nodup) ∧ (∀ z, z ∈ l_ ↔ z ∈ c0 ∧ z ∉ c0)) := by
 refine Qu Tryz.func168 Y Tryz.ntmps168 Y Tryz.call168 ?_
 intro a w M1 H hM1 S E
 replace S : St w M1 (Qh p0 (.cells #[.int .i32 0, .int .u32 0, .int .u32 0, .int .u32 0, .int .i32 0, .int .i32 0, v0] 144) :: _) := S
 replace h0 := h0.le hM1
 have hset := h0
 obtain ⟨sb0, sm0, sq0, se0, shb0, shm0, shn0, shq0⟩ := hset
 have shq0l : sq0.length ≤ c0.length := Qn shn0 fun z hz => (shq0 z).1 hz
 refine QF (Qx E Y fun _ B => QZ (Qq B Y fun _ D => QS D (Jo D Y Tryz.underlying114 (by intro z hz; cases hz)) fun _ F => Qx F Y fun _ G => QZ (Qq G Y fun _ I => QS I (Qb I Y Y) fun _ J => Qa J Y (Qs _) ?_)))
 clear E a B D F G I J; intro a E
 replace S : St w M1 (LK p0 144 0 v0 :: _) := S
 refine QB (QI (p := [LK p0 144 0 v0]) E S Y Y Y (QX Tryz.rwRLib (T := 144) (n := 0) (by decide) (by decide)) lerf ?_)
 clear E a S; rintro a _ w a2 _ a3 ⟨rfl, rfl⟩ S E
 replace S : St w a2 (Qh p0 (.cells #[.int .i32 0, .int .u32 0, .int .u32 0, .int .u32 0, .int .i32 1, .int .i32 0, v0] 144) :: H) := S
 replace h0 := h0.le a3
 refine QZ (Qq E Y fun _ B => QS B (Qb B Y Y) fun _ D => Qa D Y (Qs _) ?_)
 clear E a B D; intro a E
 replace S : St w a2 (LK p0 144 1 v0 :: _) := S
 refine QB (QI (p := [LK p0 144 1 v0]) E S Y Y Y (QX Tryz.rwRLib (T := 144) (n := 1) (by decide) (by decide)) lerf ?_)
 clear E a S; rintro a _ w a4 _ a5 ⟨rfl, rfl⟩ S E
 replace S : St w a4 (Qh p0 (.cells #[.int .i32 0, .int .u32 0, .int .u32 0, .int .u32 0, .int .i32 2, .int .i32 0, v0] 144) :: H) := S
 replace h0 := h0.le a5
 refine ZB ?_
 replace S := S.mono_heap (w' := World.drew _) rfl
 refine QN (C := fun x w => agree a4 w ∧ (x = 3 → w.heap[p0]? = some (.cells #[.int .i32 0, .int .u32 0, .int .u32 0, .int .u32 0, .int .i32 2, .int .i32 0, v0] 144)) ∧ (x = 7 → w.heap[p0]? = some (.cells #[.int .i32 0, .int .u32 0, .int .u32 0, .int .u32 0, .int .i32 2, .int .i32 0, v0] 144))) (bf := (fun i => bif Nat.beq i 9 then [3, 7] else [])) [0, 1, 2, 3, 4, 5, 6, 7, 8, 10, 11] [0, 1, 2, 3, 4, 5, 6, 7, 8, 9, 10, 11] Tryz.mixed (by kernel_rfl) (fun x hq => ⟨S.imm, fun _ => (S.mem (.head _)), fun _ => (S.mem (.head _))⟩) ?_
 refine Qo E Y (fun w hC => (Qi E Y)) fun _ B => Qo B Y (fun w hC => (Qb B Y Y)) fun _ D => Qo D Y (fun w hC => (Ql D Y (QW _))) fun _ F => Qo F Y (fun w hC => (Jz F Y (Tryz.isAgg116 _) (QC (hC.2.1 Y) Y))) fun _ G => Qo G Y (fun w hC => (Qi G Y)) fun _ I => Qo I Y (fun w hC => (Qb I Y Y)) fun _ J => Qo J Y (fun w hC => (Ql J Y (QW _))) fun _ K => Qo K Y (fun w hC => (Jz K Y (Tryz.isAgg116 _) (QC (hC.2.2 Y) Y))) fun _ L => Qo L Y (fun w hC => (QV L Y Tryz.underlying116)) ?_
 clear E a B D F G I J K L; intro a E
 refine Zd Y Y Y (QI (p := []) E S Y Y Y (Vw h0 h0 (by first | assumption | omega) (by first | assumption | omega)) lerf ?_)
 clear E a S; rintro a _ w a6 _ a7 ⟨a0, a1, l_6, rfl, rfl, b4, b5⟩ S E
 replace S : St w a6 (Qh a0 (.cells #[.map (some a1)] 145) :: Qv a1 l_6 :: Qh p0 (.cells #[.int .i32 0, .int .u32 0, .int .u32 0, .int .u32 0, .int .i32 2, .int .i32 0, v0] 144) :: H) := S
 refine ⟨fun x hq hb => ⟨(Qg a7 S.imm), (fun e => by subst e; exact absurd hb (by decide)), (fun e => by subst e; exact absurd hb (by decide))⟩, ?_⟩
 refine Qo E Y (fun w hC => (Jo E Y Tryz.underlying116 (by intro z hz; cases hz))) fun _ B => Qo B Y (fun w hC => (Qy B Y)) ?_
 clear E a B; intro a E
 refine Jv (Ju ?_)
 refine JG (QF (Qq E Y fun _ B => ZP (u := .agg #[.int .i32 0, .int .u32 0, .int .u32 0, .int .u32 0, .int .i32 0, .int .i32 0, .pointer (some ⟨a0, 0, none⟩)]) (vs := [.pointer (some ⟨a0, 0, none⟩)]) B Y (fun w => VQ _ w) ?_))
 clear E a B; intro a E
 refine QB (Yz (cs := #[.int .i32 0, .int .u32 0, .int .u32 0, .int .u32 0, .int .i32 0, .int .i32 0, .pointer (some ⟨a0, 0, none⟩)]) E S Y Y Y ?_)
 clear E a S; rintro a w a8 E S
 refine Qx E Y fun _ B => QZ (Qq B Y fun _ D => QS D (Qb D Y Y) fun _ F => Qa F Y (Qs _) ?_)
 clear E a B D F; intro a E
 replace S := S.front3
 replace S : St w a6 (LK p0 144 (1 + 1) v0 :: _) := S
 refine QB (QI (p := [LK p0 144 (1 + 1) v0]) E S Y Y Y (QP Tryz.rwRLib (T := 144) (n := 1) (by decide) (by decide)) lerf ?_)
 clear E a S; rintro a _ w a9 _ b2 ⟨rfl, rfl⟩ S E
 replace S : St w a9 (Qh p0 (.cells #[.int .i32 0, .int .u32 0, .int .u32 0, .int .u32 0, .int .i32 1, .int .i32 0, v0] 144) :: Qh a8 (.cells #[.int .i32 0, .int .u32 0, .int .u32 0, .int .u32 0, .int .i32 0, .int .i32 0, .pointer (some ⟨a0, 0, none⟩)] 144) :: Qh a0 (.cells #[.map (some a1)] 145) :: Qv a1 l_6 :: H) := S
 refine QZ (Qq E Y fun _ B => QS B (Qb B Y Y) fun _ D => Qa D Y (Qs _) ?_)
 clear E a B D; intro a E
 replace S : St w a9 (LK p0 144 (0 + 1) v0 :: _) := S
 refine QB (QI (p := [LK p0 144 (0 + 1) v0]) E S Y Y Y (QP Tryz.rwRLib (T := 144) (n := 0) (by decide) (by decide)) lerf ?_)
 clear E a S; rintro a _ w b1 _ b3 ⟨rfl, rfl⟩ S E
 replace S : St w b1 (Qh p0 (.cells #[.int .i32 0, .int .u32 0, .int .u32 0, .int .u32 0, .int .i32 0, .int .i32 0, v0] 144) :: Qh a8 (.cells #[.int .i32 0, .int .u32 0, .int .u32 0, .int .u32 0, .int .i32 0, .int .i32 0, .pointer (some ⟨a0, 0, none⟩)] 144) :: Qh a0 (.cells #[.map (some a1)] 145) :: Qv a1 l_6 :: H) := S
 refine QZ (Qq E Y fun _ B => QS B (QV B Y Tryz.underlying114) fun _ D => Qx D Y ?_)
 clear E a B D; intro a E
 refine JQ ?_
 replace S := S.front3.front3.front3.front3
 exact Qk E Tryz.results168 Y ⟨_, Y, b1, _, (a3.trans (a5.trans (a7.trans (b2.trans b3)))), ⟨_, _, _, _, Y, Y, (by assumption), (by assumption)⟩, S⟩
theorem qx {M : Hp} {x0 : Bool} {v : Value} {t : List RG} {i : Nat} {x : RG} {j : Nat} {y : RG} (hx : t[i]? = some x) (hy : t[j]? = some y) (hb : x.2.2.length ≤ 1000000000) (hb2 : y.2.2.length ≤ 1000000000) :
  QD Tryz.prog (Zx KS x0 x) "Difference" M [Zx KS x0 y] [QK KS x0 v t] (fun r _ C' => ∃ D, C' = QK KS x0 v t :: D ∧ ∃ x' : RG, r = Zx KS x0 x' ∧ x'.2.2 = Ji x.2.2 y.2.2 ∧ D = [YO KS x0 x']) := by
 refine ZX hx hy (fun M' hM hr hs => ?_) (fun e9 M' hM hr => ?_)
 ·cases x0
  ·exact ZM (F := [Zc KS false x, Zc KS false y]) (jk (QD.of_sp (fun w => Vr _ w) Tryz.call193 (JT (Vw hr hs hb hb2) fun r M2 C ⟨b, m, l, h1, h2, h3, h4⟩ => ⟨b, m, l, h1, h2, h3, fun z => (h4 z).trans (by rw [Zm])⟩))) fun r M2 C h => h
  ·exact vj (K := KS) (QD.of_sp (fun w => Vt _ w) Tryz.call168 (JT (zB hr hs hb hb2) fun r M2 C ⟨p, b, m, l, h1, h2, h3, h4⟩ => ⟨p, b, m, l, h1, h2, h3, fun z => (h4 z).trans (by rw [Zm])⟩))
 ·subst e9
  cases x0
  ·exact ZM (F := [Zc KS false y]) (jk (QD.of_sp (fun w => Vr _ w) Tryz.call193 (JT (Vw hr hr hb hb) fun r M2 C ⟨b, m, l, h1, h2, h3, h4⟩ => ⟨b, m, l, h1, h2, h3, fun z => (h4 z).trans (by rw [Zm])⟩))) fun r M2 C h => h
  ·exact jZ (K := KS) (QD.of_sp (fun w => Vt _ w) Tryz.call168 (JT (zE hr hb) fun r M2 C ⟨p, b, m, l, h1, h2, h3, h4⟩ => ⟨p, b, m, l, h1, h2, h3, fun z => (h4 z).trans (by rw [Zm])⟩))
theorem ZA {M : Hp} {v0 : Value} {c0 : List Int} (h0 : JH 145 M v0 c0) {v1 : Value} {c1 : List Int} (h1 : JH 145 M v1 c1) (b0 : c0.length ≤ 1000000000) (b1 : c1.length ≤ 1000000000)  :
  Sp Tryz.prog (.func (.func 201) #[] #[]) M [v0, .iface 116 v1] [] (fun r M' C' => ∃ b_ m_ l_, C' = [Qh b_ (.cells #[.map (some m_)] 145), Qv m_ l_] ∧ r = .iface 116 (.pointer (some ⟨b_, 0, none⟩)) ∧ (l_.Nodup) ∧ (∀ z, z ∈ l_ ↔ (z ∈ c0 ∧ z ∉ c1) ∨ (z ∈ c1 ∧ z ∉ c0))) := by
 refine Qu Tryz.func201 Y Tryz.ntmps201 Y Tryz.call201 ?_
 intro a w M1 H hM1 S E
 replace h0 := h0.le hM1
 replace h1 := h1.le hM1
 have hcl0 := JY c0
 have hcl1 := JY c1
 refine QF (Qx E Y fun _ B => QZ (Qq B Y fun _ C => QS C (Jo C Y Tryz.underlying116 (by intro z hz; cases hz)) fun _ D => Qx D Y fun _ F => QZ (Qq F Y ?_)))
 clear E a B C D F; intro a E
 refine QB (Jm E S Y Y Y (QR h0 (by first | assumption | omega)) lerf ?_)
 clear E a S; rintro a _ w c9 b6 rfl S E
 replace h0 := h0.le b6
 replace h1 := h1.le b6
 refine Qq E Y ?_
 clear E a; intro a E
 refine QB (Jm E S Y Y Y (QR h1 (by first | assumption | omega)) lerf ?_)
 clear E a S; rintro a _ w a9 b7 rfl S E
 replace h0 := h0.le b7
 replace h1 := h1.le b7
 refine QY (m := ((Jd c0 + Jd c1 : Nat) : Int)) E Y Y fun _ B => Qx B Y fun _ C => QZ (Qq C Y ?_)
 clear E a B C; intro a E
 refine QB (YW E S Y JJ Y ?_)
 clear E a S; rintro a w a2 E S
 replace S : St w a9 (Qv a2 ([] : List Int) :: _) := S
 refine QB (ZL (cs := #[.map none]) E S Y Tryz.zeroValue145 Y ?_)
 clear E a S; rintro a w a4 E S
 refine Jq (Wf E S Y Y (Tryz.sizeOf145 _) Y ?_)
 clear E a S; rintro a w E S
 refine VM (Qq E Y ?_)
 clear E a; intro a E
 have hset := h0
 obtain ⟨sb0, sm0, sq0, se0, shb0, shm0, shn0, shq0⟩ := hset
 have shq0l : sq0.length ≤ c0.length := Qn shn0 fun z hz => (shq0 z).1 hz
 refine QS E (Qb E Y se0) fun _ B => zw B Y (QG B (congrArg some se0) Tryz.isAgg145 S.imm (Jn shb0)) Y ?_
 clear E a B; intro a E
 refine QB (Zz E S Y JJ shm0 Y ?_)
 clear E a S; rintro a w a6 es_6 ck_7 E a3 S
 replace S : St w a9 (Ys sm0 es_6 ck_7 a6 (Sl.encS ([] : List Int)) :: _) := S
 refine VJ ?_
 replace S := S.front2.front1.front1
 replace S := S.reM (L' := (Sl.encS (Qp [] (([]).filter (fun z => decide (z ∉ c1)))))) (congrArg Sl.encS (show ([] : List Int) = (Qp [] (([]).filter (fun z => decide (z ∉ c1)))) by (first | rfl | (simp [Qe]; done) | (simp [Qe, List.filter_append, *]; done))))
 replace S := S.front1
 replace S := S.reIt (p' := (Sl.encS [])) (congrArg Sl.encS (show ([] : List Int) = [] by (first | rfl | (simp [Qe]; done) | (simp [Qe, List.filter_append, *]; done))))
 refine Jb (γ := List Int) (fun (p : List Int) a w => ∃ (a7 : Hp), Hp.le a9 a7 ∧ St w a7 (Ys sm0 es_6 ck_7 a6 (Sl.encS p) :: Qv a2 (Qp [] ((p).filter (fun z => decide (z ∉ c1)))) :: Qh a4 (.cells #[.map (some a2)] 145) :: H) ∧ Env a 48 [] [(0, v0), (5, v1), (7, .pointer (some ⟨a4, 0, none⟩)), (22, .pointer (some ⟨a6, 0, none⟩))] ∧ (p.Nodup) ∧ (∀ z ∈ p, z ∈ sq0) ∧ (p.length ≤ sq0.length)) (fun p => sq0.length - p.length) [] ⟨a9, lerf, S, E.keep ⟨Y, Y, Y, Y, trivial⟩, (by simp), (by simp), (by simp)⟩ ?_
 try clear E
 try clear S
 try clear a
 try clear w
 rintro p a w ⟨a7, a8, S, E, d0, d1, d2⟩
 replace h0 := h0.le a8
 replace h1 := h1.le a8
 replace a3 := a3.le a8
 refine QF ?_
 refine QB (ZK E S Y a3 Y (by assumption) (by assumption) ?_ ?_)
 ·clear E a S; rintro a E hpm_10 S
  refine Qj E Y Y ?_
  clear E a; intro a E
  refine ZB ?_
  refine QL E Y Y ?_
  refine Yu (qk (qk (B_x (JG (J_p (Qq E Y ?_))))))
  clear E a; intro a E
  have hset := h1
  obtain ⟨sb1, sm1, sq1, se1, shb1, shm1, shn1, shq1⟩ := hset
  have shq1l : sq1.length ≤ c1.length := Qn shn1 fun z hz => (shq1 z).1 hz
  refine QS E (Qb E Y se1) fun _ B => zw B Y (QG B (congrArg some se1) Tryz.isAgg145 S.imm (Jn shb1)) Y ?_
  clear E a B; intro a E
  refine QB (Zz E S Y JJ shm1 Y ?_)
  clear E a S; rintro a w b2 es_12 ck_13 E b3 S
  replace S : St w a7 (Ys sm1 es_12 ck_13 b2 (Sl.encS ([] : List Int)) :: _) := S
  refine VJ ?_
  replace S := S.front2.front1.front1
  replace S := S.reM (L' := (Sl.encS (Qp (Qp [] ((p).filter (fun z => decide (z ∉ c1)))) ([].filter (fun z => decide (z ∉ c0)))))) (congrArg Sl.encS (show (Qp [] ((p).filter (fun z => decide (z ∉ c1)))) = (Qp (Qp [] ((p).filter (fun z => decide (z ∉ c1)))) ([].filter (fun z => decide (z ∉ c0)))) by (first | rfl | (simp [Qe]; done) | (simp [Qe, List.filter_append, *]; done))))
  replace S := S.front1
  replace S := S.reIt (p' := (Sl.encS [])) (congrArg Sl.encS (show ([] : List Int) = [] by (first | rfl | (simp [Qe]; done) | (simp [Qe, List.filter_append, *]; done))))
  refine Jb (γ := List Int) (fun (r : List Int) a w => ∃ (b4 : Hp), Hp.le a7 b4 ∧ St w b4 (Ys sm1 es_12 ck_13 b2 (Sl.encS r) :: Qv a2 (Qp (Qp [] ((p).filter (fun z => decide (z ∉ c1)))) (r.filter (fun z => decide (z ∉ c0)))) :: Ys sm0 es_6 ck_7 a6 (Sl.encS p) :: Qh a4 (.cells #[.map (some a2)] 145) :: H) ∧ Env a 48 [] [(0, v0), (7, .pointer (some ⟨a4, 0, none⟩)), (36, .pointer (some ⟨b2, 0, none⟩))] ∧ (r.Nodup) ∧ (∀ z ∈ r, z ∈ sq1) ∧ (r.length ≤ sq1.length)) (fun r => sq1.length - r.length) [] ⟨a7, lerf, S, E.keep ⟨Y, Y, Y, trivial⟩, (by simp), (by simp), (by simp)⟩ ?_
  try clear E
  try clear S
  try clear a
  try clear w
  rintro r a w ⟨b4, a5, S, E, d3, d4, d5⟩
  replace h0 := h0.le a5
  replace h1 := h1.le a5
  replace a3 := a3.le a5
  replace b3 := b3.le a5
  refine QF ?_
  refine QB (ZK E S Y b3 Y (by assumption) (by assumption) ?_ ?_)
  ·clear E a S; rintro a E hpm_16 S
   refine Qj E Y Y ?_
   clear E a; intro a E
   refine ZB ?_
   refine QL E Y Y ?_
   refine Um (QS E (QV E Y Tryz.underlying116) fun _ B => Qx B Y ?_)
   clear E a B; intro a E
   refine JQ ?_
   replace S := S.drop.front1.drop.front1
   exact Qk E Tryz.results201 Y ⟨_, Y, b4, _, (b6.trans (b7.trans (a8.trans a5))), ⟨_, _, _, Y, Y, (by (first | assumption | exact Qt _ _ List.nodup_nil | exact Qt _ _ (Qt _ _ List.nodup_nil))), (by (intro z; have ep := (List.Perm.mem_iff (a := z) (show p.Perm sq0 by first | assumption | (exact List.Perm.symm (by assumption)))).trans (shq0 z); have er := (List.Perm.mem_iff (a := z) (show r.Perm sq1 by first | assumption | (exact List.Perm.symm (by assumption)))).trans (shq1 z); simp only [JP, List.not_mem_nil, false_or, List.mem_append, List.mem_filter, decide_eq_true_eq, List.nil_append]; simp only [ep, er]))⟩, S⟩
  ·clear E a S w; rintro a w a0 E hk_18 hk_18n hk_18l S
   refine Qj E Y Y ?_
   clear E a; intro a E
   refine ZB ?_
   refine Jj E Y Y ?_
   refine Ja (JG (Jw (QF (Zy (k := a0) (v := .agg #[]) E (by have S1 := S; simp only [Sl.encS, List.map_append, List.map_cons, List.map_nil] at S1; exact S1) b3 Y fun _ B => Qj B Y Y fun _ C => Qx C Y fun _ D => QZ (JR 2 D Y ?_)))))
   clear E a B C D; intro a E
   refine QB (Jm E S Y Y Y (ZQ h0 (by first | assumption | omega)) lerf ?_)
   clear E a S; rintro a _ w c4 b5 rfl S E
   replace h1 := h1.le b5
   replace a3 := a3.le b5
   refine Zk E Y ?_
   clear E a; intro a E
   refine Jx ?_
   refine Yl E Y (fun c5 => ?_) (fun c5 => ?_)
   ·refine Qr ?_
    refine Qq E Y ?_
    clear E a; intro a E
    replace S := S.front1.front3
    refine QB (QI (p := [Qh a4 (.cells #[.map (some a2)] 145), Qv a2 (Qp (Qp [] ((p).filter (fun z => decide (z ∉ c1)))) (r.filter (fun z => decide (z ∉ c0))))]) E S Y Y Y (GP) lerf ?_)
    clear E a S; rintro a _ w b9 _ b8 ⟨rfl, rfl⟩ S E
    replace S : St w b9 (Qh a4 (.cells #[.map (some a2)] 145) :: Qv a2 (Zr (Qp (Qp [] ((p).filter (fun z => decide (z ∉ c1)))) (r.filter (fun z => decide (z ∉ c0)))) a0) :: Ys sm1 es_12 ck_13 b2 (Sl.encS (r ++ [a0])) :: Ys sm0 es_6 ck_7 a6 (Sl.encS p) :: H) := S
    replace h1 := h1.le b8
    replace a3 := a3.le b8
    refine QQ (ZN (JG ?_))
    replace S := S.front3.front2.front3.front1
    replace S := S.reM (L' := (Sl.encS (Qp (Qp [] ((p).filter (fun z => decide (z ∉ c1)))) ((r ++ [a0]).filter (fun z => decide (z ∉ c0)))))) (congrArg Sl.encS (show Zr (Qp (Qp [] ((p).filter (fun z => decide (z ∉ c1)))) (r.filter (fun z => decide (z ∉ c0)))) a0 = (Qp (Qp [] ((p).filter (fun z => decide (z ∉ c1)))) ((r ++ [a0]).filter (fun z => decide (z ∉ c0)))) by (first | rfl | (simp [Qe]; done) | (simp [Qe, List.filter_append, *]; done))))
    replace S := S.front1
    replace S := S.reIt (p' := (Sl.encS (r ++ [a0]))) (congrArg Sl.encS (show r ++ [a0] = (r ++ [a0]) by (first | rfl | (simp [Qe]; done) | (simp [Qe, List.filter_append, *]; done))))
    exact ⟨(r ++ [a0]), ⟨b9, (a5.trans (b5.trans b8)), S, E.keep ⟨Y, Y, Y, trivial⟩, (by exact Yn (by assumption) (by assumption)), (by exact Yt (by assumption) (by assumption)), (by simp; omega)⟩, (by simp; omega)⟩
   ·refine Ja ?_
    refine ZN (JG ?_)
    replace S := S.front1
    replace S := S.reM (L' := (Sl.encS (Qp (Qp [] ((p).filter (fun z => decide (z ∉ c1)))) ((r ++ [a0]).filter (fun z => decide (z ∉ c0)))))) (congrArg Sl.encS (show (Qp (Qp [] ((p).filter (fun z => decide (z ∉ c1)))) (r.filter (fun z => decide (z ∉ c0)))) = (Qp (Qp [] ((p).filter (fun z => decide (z ∉ c1)))) ((r ++ [a0]).filter (fun z => decide (z ∉ c0)))) by (first | rfl | (simp [Qe]; done) | (simp [Qe, List.filter_append, *]; done))))
    replace S := S.front1
    replace S := S.reIt (p' := (Sl.encS (r ++ [a0]))) (congrArg Sl.encS (show r ++ [a0] = (r ++ [a0]) by (first | rfl | (simp [Qe]; done) | (simp [Qe, List.filter_append, *]; done))))
    exact ⟨(r ++ [a0]), ⟨c4, (a5.trans b5), S, E.keep ⟨Y, Y, Y, trivial⟩, (by exact Yn (by assumption) (by assumption)), (by exact Yt (by assumption) (by assumption)), (by simp; omega)⟩, (by simp; omega)⟩
 ·clear E a S w; rintro a w a1 E hk_23 hk_23n hk_23l S
  refine Qj E Y Y ?_
  clear E a; intro a E
  refine ZB ?_
  refine Jj E Y Y ?_
  refine Ja (JG (Jw (QF (Zy (k := a1) (v := .agg #[]) E (by have S1 := S; simp only [Sl.encS, List.map_append, List.map_cons, List.map_nil] at S1; exact S1) a3 Y fun _ B => Qj B Y Y fun _ C => Qx C Y fun _ D => QZ (JR 2 D Y ?_)))))
  clear E a B C D; intro a E
  refine QB (Jm E S Y Y Y (ZQ h1 (by first | assumption | omega)) lerf ?_)
  clear E a S; rintro a _ w c6 c2 rfl S E
  refine Zk E Y ?_
  clear E a; intro a E
  refine Jx ?_
  refine Yl E Y (fun c7 => ?_) (fun c7 => ?_)
  ·refine Qr ?_
   refine Qq E Y ?_
   clear E a; intro a E
   replace S := S.front1.front2
   refine QB (QI (p := [Qh a4 (.cells #[.map (some a2)] 145), Qv a2 (Qp [] ((p).filter (fun z => decide (z ∉ c1))))]) E S Y Y Y (GP) lerf ?_)
   clear E a S; rintro a _ w c3 _ c8 ⟨rfl, rfl⟩ S E
   replace S : St w c3 (Qh a4 (.cells #[.map (some a2)] 145) :: Qv a2 (Zr (Qp [] ((p).filter (fun z => decide (z ∉ c1)))) a1) :: Ys sm0 es_6 ck_7 a6 (Sl.encS (p ++ [a1])) :: H) := S
   refine QQ (ZN (JG ?_))
   replace S := S.front1.front2.front1
   replace S := S.reM (L' := (Sl.encS (Qp [] (((p ++ [a1])).filter (fun z => decide (z ∉ c1)))))) (congrArg Sl.encS (show Zr (Qp [] ((p).filter (fun z => decide (z ∉ c1)))) a1 = (Qp [] (((p ++ [a1])).filter (fun z => decide (z ∉ c1)))) by (first | rfl | (simp [Qe]; done) | (simp [Qe, List.filter_append, *]; done))))
   replace S := S.front1
   replace S := S.reIt (p' := (Sl.encS (p ++ [a1]))) (congrArg Sl.encS (show p ++ [a1] = (p ++ [a1]) by (first | rfl | (simp [Qe]; done) | (simp [Qe, List.filter_append, *]; done))))
   exact ⟨(p ++ [a1]), ⟨c3, (a8.trans (c2.trans c8)), S, E.keep ⟨Y, Y, Y, Y, trivial⟩, (by exact Yn (by assumption) (by assumption)), (by exact Yt (by assumption) (by assumption)), (by simp; omega)⟩, (by simp; omega)⟩
  ·refine Ja ?_
   refine ZN (JG ?_)
   replace S := S.front1
   replace S := S.reM (L' := (Sl.encS (Qp [] (((p ++ [a1])).filter (fun z => decide (z ∉ c1)))))) (congrArg Sl.encS (show (Qp [] ((p).filter (fun z => decide (z ∉ c1)))) = (Qp [] (((p ++ [a1])).filter (fun z => decide (z ∉ c1)))) by (first | rfl | (simp [Qe]; done) | (simp [Qe, List.filter_append, *]; done))))
   replace S := S.front1
   replace S := S.reIt (p' := (Sl.encS (p ++ [a1]))) (congrArg Sl.encS (show p ++ [a1] = (p ++ [a1]) by (first | rfl | (simp [Qe]; done) | (simp [Qe, List.filter_append, *]; done))))
   exact ⟨(p ++ [a1]), ⟨c6, (a8.trans c2), S, E.keep ⟨Y, Y, Y, Y, trivial⟩, (by exact Yn (by assumption) (by assumption)), (by exact Yt (by assumption) (by assumption)), (by simp; omega)⟩, (by simp; omega)⟩
theorem Ug {M : Hp} {p0 : Nat} {v0 : Value} {c0 : List Int} (h0 : JH 145 M v0 c0) {p1 : Nat} {v1 : Value} {c1 : List Int} (h1 : JH 145 M v1 c1) (b0 : c0.length ≤ 1000000000) (b1 : c1.length ≤ 1000000000)  :
  Sp Tryz.prog (.func (.func 181) #[] #[]) M [.pointer (some ⟨p0, 0, none⟩), .iface 114 (.pointer (some ⟨p1, 0, none⟩))] [Qh p0 (.cells #[.int .i32 0, .int .u32 0, .int .u32 0, .int .u32 0, .int .i32 0, .int .i32 0, v0] 144), Qh p1 (.cells #[.int .i32 0, .int .u32 0, .int .u32 0, .int .u32 0, .int .i32 0, .int .i32 0, v1] 144)] (fun r M' C' => ∃ p_ b_ m_ l_, C' = [Qh p0 (.cells #[.int .i32 0, .int .u32 0, .int .u32 0, .int .u32 0, .int .i32 0, .int .i32 0, v0] 144), Qh p1 (.cells #[.int .i32 0, .int .u32 0, .int .u32 0, .int .u32 0, .int .i32 0, .int .i32 0, v1] 144), Qh p_ (.cells #[.int .i32 0, .int .u32 0, .int .u32 0, .int .u32 0, .int .i32 0, .int .i32 0, .pointer (some ⟨b_, 0, none⟩)] 144), Qh b_ (.cells #[.map (some m_)] 145), Qv m_ l_] ∧ r = .iface 114 (.pointer (some ⟨p_, 0, none⟩)) ∧ (l_.Nodup) ∧ (∀ z, z ∈ l_ ↔ (z ∈ c0 ∧ z ∉ c1) ∨ (z ∈ c1 ∧ z ∉ c0))) := by
 refine Qu Tryz.func181 Y Tryz.ntmps181 Y Tryz.call181 ?_
 intro a w M1 H hM1 S E
 replace S : St w M1 (Qh p0 (.cells #[.int .i32 0, .int .u32 0, .int .u32 0, .int .u32 0, .int .i32 0, .int .i32 0, v0] 144) :: Qh p1 (.cells #[.int .i32 0, .int .u32 0, .int .u32 0, .int .u32 0, .int .i32 0, .int .i32 0, v1] 144) :: _) := S
 replace h0 := h0.le hM1
 replace h1 := h1.le hM1
 have hset := h0
 obtain ⟨sb0, sm0, sq0, se0, shb0, shm0, shn0, shq0⟩ := hset
 have shq0l : sq0.length ≤ c0.length := Qn shn0 fun z hz => (shq0 z).1 hz
 have hset := h1
 obtain ⟨sb1, sm1, sq1, se1, shb1, shm1, shn1, shq1⟩ := hset
 have shq1l : sq1.length ≤ c1.length := Qn shn1 fun z hz => (shq1 z).1 hz
 refine QF (Qx E Y fun _ B => QZ (Qq B Y fun _ D => QS D (Jo D Y Tryz.underlying114 (by intro z hz; cases hz)) fun _ F => Qx F Y fun _ G => QZ (Qq G Y fun _ I => QS I (Qb I Y Y) fun _ J => Qa J Y (Qs _) ?_)))
 clear E a B D F G I J; intro a E
 replace S : St w M1 (LK p0 144 0 v0 :: _) := S
 refine QB (QI (p := [LK p0 144 0 v0]) E S Y Y Y (QX Tryz.rwRLib (T := 144) (n := 0) (by decide) (by decide)) lerf ?_)
 clear E a S; rintro a _ w a4 _ a2 ⟨rfl, rfl⟩ S E
 replace S : St w a4 (Qh p0 (.cells #[.int .i32 0, .int .u32 0, .int .u32 0, .int .u32 0, .int .i32 1, .int .i32 0, v0] 144) :: Qh p1 (.cells #[.int .i32 0, .int .u32 0, .int .u32 0, .int .u32 0, .int .i32 0, .int .i32 0, v1] 144) :: H) := S
 replace h0 := h0.le a2
 replace h1 := h1.le a2
 refine QZ (Qq E Y fun _ B => QS B (Qb B Y Y) fun _ D => Qa D Y (Qs _) ?_)
 clear E a B D; intro a E
 replace S := S.front1
 replace S : St w a4 (LK p1 144 0 v1 :: _) := S
 refine QB (QI (p := [LK p1 144 0 v1]) E S Y Y Y (QX Tryz.rwRLib (T := 144) (n := 0) (by decide) (by decide)) lerf ?_)
 clear E a S; rintro a _ w a5 _ a3 ⟨rfl, rfl⟩ S E
 replace S : St w a5 (Qh p1 (.cells #[.int .i32 0, .int .u32 0, .int .u32 0, .int .u32 0, .int .i32 1, .int .i32 0, v1] 144) :: Qh p0 (.cells #[.int .i32 0, .int .u32 0, .int .u32 0, .int .u32 0, .int .i32 1, .int .i32 0, v0] 144) :: H) := S
 replace h0 := h0.le a3
 replace h1 := h1.le a3
 refine ZB ?_
 replace S := S.mono_heap (w' := World.drew _) rfl
 refine QN (C := fun x w => agree a5 w ∧ (x = 3 → w.heap[p0]? = some (.cells #[.int .i32 0, .int .u32 0, .int .u32 0, .int .u32 0, .int .i32 1, .int .i32 0, v0] 144)) ∧ (x = 7 → w.heap[p1]? = some (.cells #[.int .i32 0, .int .u32 0, .int .u32 0, .int .u32 0, .int .i32 1, .int .i32 0, v1] 144))) (bf := (fun i => bif Nat.beq i 9 then [3, 7] else [])) [0, 1, 2, 3, 4, 5, 6, 7, 8, 10, 11] [0, 1, 2, 3, 4, 5, 6, 7, 8, 9, 10, 11] Tryz.mixed (by kernel_rfl) (fun x hq => ⟨S.imm, fun _ => (S.mem (.tail _ (.head _))), fun _ => (S.mem (.head _))⟩) ?_
 refine Qo E Y (fun w hC => (Qi E Y)) fun _ B => Qo B Y (fun w hC => (Qb B Y Y)) fun _ D => Qo D Y (fun w hC => (Ql D Y (QW _))) fun _ F => Qo F Y (fun w hC => (Jz F Y (Tryz.isAgg116 _) (QC (hC.2.1 Y) Y))) fun _ G => Qo G Y (fun w hC => (Qi G Y)) fun _ I => Qo I Y (fun w hC => (Qb I Y Y)) fun _ J => Qo J Y (fun w hC => (Ql J Y (QW _))) fun _ K => Qo K Y (fun w hC => (Jz K Y (Tryz.isAgg116 _) (QC (hC.2.2 Y) Y))) fun _ L => Qo L Y (fun w hC => (QV L Y Tryz.underlying116)) ?_
 clear E a B D F G I J K L; intro a E
 refine Zd Y Y Y (QI (p := []) E S Y Y Y (ZA h0 h1 (by first | assumption | omega) (by first | assumption | omega)) lerf ?_)
 clear E a S; rintro a _ w a6 _ a7 ⟨a0, a1, l_6, rfl, rfl, b5, b6⟩ S E
 replace S : St w a6 (Qh a0 (.cells #[.map (some a1)] 145) :: Qv a1 l_6 :: Qh p1 (.cells #[.int .i32 0, .int .u32 0, .int .u32 0, .int .u32 0, .int .i32 1, .int .i32 0, v1] 144) :: Qh p0 (.cells #[.int .i32 0, .int .u32 0, .int .u32 0, .int .u32 0, .int .i32 1, .int .i32 0, v0] 144) :: H) := S
 refine ⟨fun x hq hb => ⟨(Qg a7 S.imm), (fun e => by subst e; exact absurd hb (by decide)), (fun e => by subst e; exact absurd hb (by decide))⟩, ?_⟩
 refine Qo E Y (fun w hC => (Jo E Y Tryz.underlying116 (by intro z hz; cases hz))) fun _ B => Qo B Y (fun w hC => (Qy B Y)) ?_
 clear E a B; intro a E
 refine Jv (Ju ?_)
 refine JG (QF (Qq E Y fun _ B => ZP (u := .agg #[.int .i32 0, .int .u32 0, .int .u32 0, .int .u32 0, .int .i32 0, .int .i32 0, .pointer (some ⟨a0, 0, none⟩)]) (vs := [.pointer (some ⟨a0, 0, none⟩)]) B Y (fun w => VQ _ w) ?_))
 clear E a B; intro a E
 refine QB (Yz (cs := #[.int .i32 0, .int .u32 0, .int .u32 0, .int .u32 0, .int .i32 0, .int .i32 0, .pointer (some ⟨a0, 0, none⟩)]) E S Y Y Y ?_)
 clear E a S; rintro a w a8 E S
 refine Qx E Y fun _ B => QZ (Qq B Y fun _ D => QS D (Qb D Y Y) fun _ F => Qa F Y (Qs _) ?_)
 clear E a B D F; intro a E
 replace S := S.front4
 replace S : St w a6 (LK p0 144 (0 + 1) v0 :: _) := S
 refine QB (QI (p := [LK p0 144 (0 + 1) v0]) E S Y Y Y (QP Tryz.rwRLib (T := 144) (n := 0) (by decide) (by decide)) lerf ?_)
 clear E a S; rintro a _ w a9 _ b3 ⟨rfl, rfl⟩ S E
 replace S : St w a9 (Qh p0 (.cells #[.int .i32 0, .int .u32 0, .int .u32 0, .int .u32 0, .int .i32 0, .int .i32 0, v0] 144) :: Qh a8 (.cells #[.int .i32 0, .int .u32 0, .int .u32 0, .int .u32 0, .int .i32 0, .int .i32 0, .pointer (some ⟨a0, 0, none⟩)] 144) :: Qh a0 (.cells #[.map (some a1)] 145) :: Qv a1 l_6 :: Qh p1 (.cells #[.int .i32 0, .int .u32 0, .int .u32 0, .int .u32 0, .int .i32 1, .int .i32 0, v1] 144) :: H) := S
 refine QZ (Qq E Y fun _ B => QS B (Qb B Y Y) fun _ D => Qa D Y (Qs _) ?_)
 clear E a B D; intro a E
 replace S := S.front4
 replace S : St w a9 (LK p1 144 (0 + 1) v1 :: _) := S
 refine QB (QI (p := [LK p1 144 (0 + 1) v1]) E S Y Y Y (QP Tryz.rwRLib (T := 144) (n := 0) (by decide) (by decide)) lerf ?_)
 clear E a S; rintro a _ w b2 _ b4 ⟨rfl, rfl⟩ S E
 replace S : St w b2 (Qh p1 (.cells #[.int .i32 0, .int .u32 0, .int .u32 0, .int .u32 0, .int .i32 0, .int .i32 0, v1] 144) :: Qh p0 (.cells #[.int .i32 0, .int .u32 0, .int .u32 0, .int .u32 0, .int .i32 0, .int .i32 0, v0] 144) :: Qh a8 (.cells #[.int .i32 0, .int .u32 0, .int .u32 0, .int .u32 0, .int .i32 0, .int .i32 0, .pointer (some ⟨a0, 0, none⟩)] 144) :: Qh a0 (.cells #[.map (some a1)] 145) :: Qv a1 l_6 :: H) := S
 refine QZ (Qq E Y fun _ B => QS B (QV B Y Tryz.underlying114) fun _ D => Qx D Y ?_)
 clear E a B D; intro a E
 refine JQ ?_
 replace S := S.front4.front4.front4.front3.front4
 exact Qk E Tryz.results181 Y ⟨_, Y, b2, _, (a2.trans (a3.trans (a7.trans (b3.trans b4)))), ⟨_, _, _, _, Y, Y, (by assumption), (by assumption)⟩, S⟩
theorem Uj {M : Hp} {p0 : Nat} {v0 : Value} {c0 : List Int} (h0 : JH 145 M v0 c0) (b0 : c0.length ≤ 1000000000)  :
  Sp Tryz.prog (.func (.func 181) #[] #[]) M [.pointer (some ⟨p0, 0, none⟩), .iface 114 (.pointer (some ⟨p0, 0, none⟩))] [Qh p0 (.cells #[.int .i32 0, .int .u32 0, .int .u32 0, .int .u32 0, .int .i32 0, .int .i32 0, v0] 144)] (fun r M' C' => ∃ p_ b_ m_ l_, C' = [Qh p0 (.cells #[.int .i32 0, .int .u32 0, .int .u32 0, .int .u32 0, .int .i32 0, .int .i32 0, v0] 144), Qh p_ (.cells #[.int .i32 0, .int .u32 0, .int .u32 0, .int .u32 0, .int .i32 0, .int .i32 0, .pointer (some ⟨b_, 0, none⟩)] 144), Qh b_ (.cells #[.map (some m_)] 145), Qv m_ l_] ∧ r = .iface 114 (.pointer (some ⟨p_, 0, none⟩)) ∧ (l_.Nodup) ∧ (∀ z, z ∈ l_ ↔ (z ∈ c0 ∧ z ∉ c0) ∨ (z ∈ c0 ∧ z ∉ c0))) := by
 refine Qu Tryz.func181 Y Tryz.ntmps181 Y Tryz.call181 ?_
 intro a w M1 H hM1 S E
 replace S : St w M1 (Qh p0 (.cells #[.int .i32 0, .int .u32 0, .int .u32 0, .int .u32 0, .int .i32 0, .int .i32 0, v0] 144) :: _) := S
 replace h0 := h0.le hM1
 have hset := h0
 obtain ⟨sb0, sm0, sq0, se0, shb0, shm0, shn0, shq0⟩ := hset
 have shq0l : sq0.length ≤ c0.length := Qn shn0 fun z hz => (shq0 z).1 hz
 refine QF (Qx E Y fun _ B => QZ (Qq B Y fun _ D => QS D (Jo D Y Tryz.underlying114 (by intro z hz; cases hz)) fun _ F => Qx F Y fun _ G => QZ (Qq G Y fun _ I => QS I (Qb I Y Y) fun _ J => Qa J Y (Qs _) ?_)))
 clear E a B D F G I J; intro a E
 replace S : St w M1 (LK p0 144 0 v0 :: _) := S
 refine QB (QI (p := [LK p0 144 0 v0]) E S Y Y Y (QX Tryz.rwRLib (T := 144) (n := 0) (by decide) (by decide)) lerf ?_)
 clear E a S; rintro a _ w a2 _ a3 ⟨rfl, rfl⟩ S E
 replace S : St w a2 (Qh p0 (.cells #[.int .i32 0, .int .u32 0, .int .u32 0, .int .u32 0, .int .i32 1, .int .i32 0, v0] 144) :: H) := S
 replace h0 := h0.le a3
 refine QZ (Qq E Y fun _ B => QS B (Qb B Y Y) fun _ D => Qa D Y (Qs _) ?_)
 clear E a B D; intro a E
 replace S : St w a2 (LK p0 144 1 v0 :: _) := S
 refine QB (QI (p := [LK p0 144 1 v0]) E S Y Y Y (QX Tryz.rwRLib (T := 144) (n := 1) (by decide) (by decide)) lerf ?_)
 clear E a S; rintro a _ w a4 _ a5 ⟨rfl, rfl⟩ S E
 replace S : St w a4 (Qh p0 (.cells #[.int .i32 0, .int .u32 0, .int .u32 0, .int .u32 0, .int .i32 2, .int .i32 0, v0] 144) :: H) := S
 replace h0 := h0.le a5
 refine ZB ?_
 replace S := S.mono_heap (w' := World.drew _) rfl
 refine QN (C := fun x w => agree a4 w ∧ (x = 3 → w.heap[p0]? = some (.cells #[.int .i32 0, .int .u32 0, .int .u32 0, .int .u32 0, .int .i32 2, .int .i32 0, v0] 144)) ∧ (x = 7 → w.heap[p0]? = some (.cells #[.int .i32 0, .int .u32 0, .int .u32 0, .int .u32 0, .int .i32 2, .int .i32 0, v0] 144))) (bf := (fun i => bif Nat.beq i 9 then [3, 7] else [])) [0, 1, 2, 3, 4, 5, 6, 7, 8, 10, 11] [0, 1, 2, 3, 4, 5, 6, 7, 8, 9, 10, 11] Tryz.mixed (by kernel_rfl) (fun x hq => ⟨S.imm, fun _ => (S.mem (.head _)), fun _ => (S.mem (.head _))⟩) ?_
 refine Qo E Y (fun w hC => (Qi E Y)) fun _ B => Qo B Y (fun w hC => (Qb B Y Y)) fun _ D => Qo D Y (fun w hC => (Ql D Y (QW _))) fun _ F => Qo F Y (fun w hC => (Jz F Y (Tryz.isAgg116 _) (QC (hC.2.1 Y) Y))) fun _ G => Qo G Y (fun w hC => (Qi G Y)) fun _ I => Qo I Y (fun w hC => (Qb I Y Y)) fun _ J => Qo J Y (fun w hC => (Ql J Y (QW _))) fun _ K => Qo K Y (fun w hC => (Jz K Y (Tryz.isAgg116 _) (QC (hC.2.2 Y) Y))) fun _ L => Qo L Y (fun w hC => (QV L Y Tryz.underlying116)) ?_
 clear E a B D F G I J K L; intro a E
 refine Zd Y Y Y (QI (p := []) E S Y Y Y (ZA h0 h0 (by first | assumption | omega) (by first | assumption | omega)) lerf ?_)
 clear E a S; rintro a _ w a6 _ a7 ⟨a0, a1, l_6, rfl, rfl, b4, b5⟩ S E
 replace S : St w a6 (Qh a0 (.cells #[.map (some a1)] 145) :: Qv a1 l_6 :: Qh p0 (.cells #[.int .i32 0, .int .u32 0, .int .u32 0, .int .u32 0, .int .i32 2, .int .i32 0, v0] 144) :: H) := S
 refine ⟨fun x hq hb => ⟨(Qg a7 S.imm), (fun e => by subst e; exact absurd hb (by decide)), (fun e => by subst e; exact absurd hb (by decide))⟩, ?_⟩
 refine Qo E Y (fun w hC => (Jo E Y Tryz.underlying116 (by intro z hz; cases hz))) fun _ B => Qo B Y (fun w hC => (Qy B Y)) ?_
 clear E a B; intro a E
 refine Jv (Ju ?_)
 refine JG (QF (Qq E Y fun _ B => ZP (u := .agg #[.int .i32 0, .int .u32 0, .int .u32 0, .int .u32 0, .int .i32 0, .int .i32 0, .pointer (some ⟨a0, 0, none⟩)]) (vs := [.pointer (some ⟨a0, 0, none⟩)]) B Y (fun w => VQ _ w) ?_))
 clear E a B; intro a E
 refine QB (Yz (cs := #[.int .i32 0, .int .u32 0, .int .u32 0, .int .u32 0, .int .i32 0, .int .i32 0, .pointer (some ⟨a0, 0, none⟩)]) E S Y Y Y ?_)
 clear E a S; rintro a w a8 E S
 refine Qx E Y fun _ B => QZ (Qq B Y fun _ D => QS D (Qb D Y Y) fun _ F => Qa F Y (Qs _) ?_)
 clear E a B D F; intro a E
 replace S := S.front3
 replace S : St w a6 (LK p0 144 (1 + 1) v0 :: _) := S
 refine QB (QI (p := [LK p0 144 (1 + 1) v0]) E S Y Y Y (QP Tryz.rwRLib (T := 144) (n := 1) (by decide) (by decide)) lerf ?_)
 clear E a S; rintro a _ w a9 _ b2 ⟨rfl, rfl⟩ S E
 replace S : St w a9 (Qh p0 (.cells #[.int .i32 0, .int .u32 0, .int .u32 0, .int .u32 0, .int .i32 1, .int .i32 0, v0] 144) :: Qh a8 (.cells #[.int .i32 0, .int .u32 0, .int .u32 0, .int .u32 0, .int .i32 0, .int .i32 0, .pointer (some ⟨a0, 0, none⟩)] 144) :: Qh a0 (.cells #[.map (some a1)] 145) :: Qv a1 l_6 :: H) := S
 refine QZ (Qq E Y fun _ B => QS B (Qb B Y Y) fun _ D => Qa D Y (Qs _) ?_)
 clear E a B D; intro a E
 replace S : St w a9 (LK p0 144 (0 + 1) v0 :: _) := S
 refine QB (QI (p := [LK p0 144 (0 + 1) v0]) E S Y Y Y (QP Tryz.rwRLib (T := 144) (n := 0) (by decide) (by decide)) lerf ?_)
 clear E a S; rintro a _ w b1 _ b3 ⟨rfl, rfl⟩ S E
 replace S : St w b1 (Qh p0 (.cells #[.int .i32 0, .int .u32 0, .int .u32 0, .int .u32 0, .int .i32 0, .int .i32 0, v0] 144) :: Qh a8 (.cells #[.int .i32 0, .int .u32 0, .int .u32 0, .int .u32 0, .int .i32 0, .int .i32 0, .pointer (some ⟨a0, 0, none⟩)] 144) :: Qh a0 (.cells #[.map (some a1)] 145) :: Qv a1 l_6 :: H) := S
 refine QZ (Qq E Y fun _ B => QS B (QV B Y Tryz.underlying114) fun _ D => Qx D Y ?_)
 clear E a B D; intro a E
 refine JQ ?_
 replace S := S.front3.front3.front3.front3
 exact Qk E Tryz.results181 Y ⟨_, Y, b1, _, (a3.trans (a5.trans (a7.trans (b2.trans b3)))), ⟨_, _, _, _, Y, Y, (by assumption), (by assumption)⟩, S⟩
theorem VR {M : Hp} {x0 : Bool} {v : Value} {t : List RG} {i : Nat} {x : RG} {j : Nat} {y : RG} (hx : t[i]? = some x) (hy : t[j]? = some y) (hb : x.2.2.length ≤ 1000000000) (hb2 : y.2.2.length ≤ 1000000000) :
  QD Tryz.prog (Zx KS x0 x) "SymmetricDifference" M [Zx KS x0 y] [QK KS x0 v t] (fun r _ C' => ∃ D, C' = QK KS x0 v t :: D ∧ ∃ x' : RG, r = Zx KS x0 x' ∧ x'.2.2 = Ur x.2.2 y.2.2 ∧ D = [YO KS x0 x']) := by
 refine ZX hx hy (fun M' hM hr hs => ?_) (fun e9 M' hM hr => ?_)
 ·cases x0
  ·exact ZM (F := [Zc KS false x, Zc KS false y]) (jk (QD.of_sp (fun w => ZS _ w) Tryz.call201 (JT (ZA hr hs hb hb2) fun r M2 C ⟨b, m, l, h1, h2, h3, h4⟩ => ⟨b, m, l, h1, h2, h3, fun z => (h4 z).trans (by rw [qh])⟩))) fun r M2 C h => h
  ·exact vj (K := KS) (QD.of_sp (fun w => ZT _ w) Tryz.call181 (JT (Ug hr hs hb hb2) fun r M2 C ⟨p, b, m, l, h1, h2, h3, h4⟩ => ⟨p, b, m, l, h1, h2, h3, fun z => (h4 z).trans (by rw [qh])⟩))
 ·subst e9
  cases x0
  ·exact ZM (F := [Zc KS false y]) (jk (QD.of_sp (fun w => ZS _ w) Tryz.call201 (JT (ZA hr hr hb hb) fun r M2 C ⟨b, m, l, h1, h2, h3, h4⟩ => ⟨b, m, l, h1, h2, h3, fun z => (h4 z).trans (by rw [qh])⟩))) fun r M2 C h => h
  ·exact jZ (K := KS) (QD.of_sp (fun w => ZT _ w) Tryz.call181 (JT (Uj hr hb) fun r M2 C ⟨p, b, m, l, h1, h2, h3, h4⟩ => ⟨p, b, m, l, h1, h2, h3, fun z => (h4 z).trans (by rw [qh])⟩))
theorem qj {M : Hp} {v0 : Value} {c0 : List Int} (h0 : JH 145 M v0 c0) {v1 : Value} {c1 : List Int} (h1 : JH 145 M v1 c1) (b0 : c0.length ≤ 1000000000) (b1 : c1.length ≤ 1000000000)  :
  Pu Tryz.prog (.func (.func 194) #[] #[]) M [v0, .iface 116 v1] (fun r M' => r = .bool (QT c0 c1 && QT c1 c0)) := by
 refine Jt Tryz.func194 Y Tryz.ntmps194 Y Tryz.call194 ?_
 intro a w M1 H hM1 S E
 replace h0 := h0.le hM1
 replace h1 := h1.le hM1
 have hcl0 := JY c0
 have hcl1 := JY c1
 refine QF (Qx E Y fun _ B => QZ (Qq B Y fun _ C => QS C (Jo C Y Tryz.underlying116 (by intro z hz; cases hz)) fun _ D => Qx D Y fun _ F => VM (Qq F Y ?_)))
 clear E a B C D F; intro a E
 refine QB (Jm E S Y Y Y (QR h0 (by first | assumption | omega)) lerf ?_)
 clear E a S; rintro a _ w b4 a0 rfl S E
 replace h0 := h0.le a0
 replace h1 := h1.le a0
 refine Qq E Y ?_
 clear E a; intro a E
 refine QB (qT E S Y Y Y (JO _ _) Tryz.call205 (QR h1 (by first | assumption | omega)) lerf ?_)
 clear E a S; rintro a _ w a4 a1 rfl S E
 replace h0 := h0.le a1
 replace h1 := h1.le a1
 refine WZ E Y Y ?_
 clear E a; intro a E
 refine Jx ?_
 refine QJ E Y (fun b2 => ?_) (fun b2 => ?_)
 ·refine QF (Qx E Y ?_)
  clear E a; intro a E
  refine WF ?_
  exact Qk E Tryz.results194 Y ⟨_, Y, a4, (a0.trans a1), (cgB (by (first | (have h9 := zG (by first | assumption | exact List.Perm.symm (by assumption)) shq0 (show ∀ z ∈ p, z ∈ c1 by assumption); rw [h9, WH h9 (by omega)]; rfl) | (rw [show QT c0 c1 = false from (zH (k := _) (by assumption) shq0 (by simp_all))]; rfl) | (rcases Nat.lt_or_gt_of_ne (show Jd c0 ≠ Jd c1 by omega) with h9 | h9; (rw [YB h9, Bool.and_false]); (rw [YB h9]; rfl))))), S⟩
 ·refine J_q (Qq E Y ?_)
  clear E a; intro a E
  have hset := h0
  obtain ⟨sb0, sm0, sq0, se0, shb0, shm0, shn0, shq0⟩ := hset
  have shq0l : sq0.length ≤ c0.length := Qn shn0 fun z hz => (shq0 z).1 hz
  refine QS E (Qb E Y se0) fun _ B => zw B Y (QG B (congrArg some se0) Tryz.isAgg145 S.imm (Jn shb0)) Y ?_
  clear E a B; intro a E
  refine QB (Zz E S Y JJ shm0 Y ?_)
  clear E a S; rintro a w a7 es_5 ck_6 E a5 S
  replace S : St w a4 (Ys sm0 es_5 ck_6 a7 (Sl.encS ([] : List Int)) :: _) := S
  refine VJ ?_
  replace S := S.reIt (p' := (Sl.encS [])) (congrArg Sl.encS (show ([] : List Int) = [] by (first | rfl | (simp [Qe]; done) | (simp [Qe, List.filter_append, *]; done))))
  refine Jb (γ := List Int) (fun (p : List Int) a w => ∃ (a6 : Hp), Hp.le a4 a6 ∧ St w a6 (Ys sm0 es_5 ck_6 a7 (Sl.encS p) :: H) ∧ Env a 26 [] [(5, v1), (17, .pointer (some ⟨a7, 0, none⟩))] ∧ (p.Nodup) ∧ (∀ z ∈ p, z ∈ sq0) ∧ (p.length ≤ sq0.length) ∧ (∀ z ∈ p, z ∈ c1)) (fun p => sq0.length - p.length) [] ⟨a4, lerf, S, E.keep ⟨Y, Y, trivial⟩, (by simp), (by simp), (by simp), (by simp)⟩ ?_
  try clear E
  try clear S
  try clear a
  try clear w
  rintro p a w ⟨a6, a2, S, E, b5, b6, b7, b8⟩
  replace h1 := h1.le a2
  replace a5 := a5.le a2
  refine QF ?_
  refine QB (ZK E S Y a5 Y (by assumption) (by assumption) ?_ ?_)
  ·clear E a S; rintro a E hpm_9 S
   refine Qj E Y Y ?_
   clear E a; intro a E
   refine ZB ?_
   refine QL E Y Y ?_
   refine Um (Qx E Y ?_)
   clear E a; intro a E
   refine JQ ?_
   exact Qk E Tryz.results194 Y ⟨_, Y, a6, (a0.trans (a1.trans a2)), (cgB (by (first | (have h9 := zG (by first | assumption | exact List.Perm.symm (by assumption)) shq0 (show ∀ z ∈ p, z ∈ c1 by assumption); rw [h9, WH h9 (by omega)]; rfl) | (rw [show QT c0 c1 = false from (zH (k := _) (by assumption) shq0 (by simp_all))]; rfl) | (rcases Nat.lt_or_gt_of_ne (show Jd c0 ≠ Jd c1 by omega) with h9 | h9; (rw [YB h9, Bool.and_false]); (rw [YB h9]; rfl))))), S.drop⟩
  ·clear E a S w; rintro a w a3 E hk_11 hk_11n hk_11l S
   refine Qj E Y Y ?_
   clear E a; intro a E
   refine ZB ?_
   refine Jj E Y Y ?_
   refine Ja (JG (Jw (QF (Zy (k := a3) (v := .agg #[]) E (by have S1 := S; simp only [Sl.encS, List.map_append, List.map_cons, List.map_nil] at S1; exact S1) a5 Y fun _ B => Qj B Y Y fun _ C => Qx C Y fun _ D => QZ (JR 2 D Y ?_)))))
   clear E a B C D; intro a E
   refine QB (Jm E S Y Y Y (ZQ h1 (by first | assumption | omega)) lerf ?_)
   clear E a S; rintro a _ w a8 a9 rfl S E
   refine Zk E Y ?_
   clear E a; intro a E
   refine Jx ?_
   refine Yl E Y (fun b3 => ?_) (fun b3 => ?_)
   ·refine Za ?_
    refine Qr (Qx E Y ?_)
    clear E a; intro a E
    refine J_r (jd (qW ?_))
    exact Qk E Tryz.results194 Y ⟨_, Y, a8, (a0.trans (a1.trans (a2.trans a9))), (cgB (by (first | (have h9 := zG (by first | assumption | exact List.Perm.symm (by assumption)) shq0 (show ∀ z ∈ p, z ∈ c1 by assumption); rw [h9, WH h9 (by omega)]; rfl) | (rw [show QT c0 c1 = false from (zH (k := _) (by assumption) shq0 (by simp_all))]; rfl) | (rcases Nat.lt_or_gt_of_ne (show Jd c0 ≠ Jd c1 by omega) with h9 | h9; (rw [YB h9, Bool.and_false]); (rw [YB h9]; rfl))))), S.drop⟩
   ·refine Ja ?_
    refine ZN (JG ?_)
    replace S := S.reIt (p' := (Sl.encS (p ++ [a3]))) (congrArg Sl.encS (show p ++ [a3] = (p ++ [a3]) by (first | rfl | (simp [Qe]; done) | (simp [Qe, List.filter_append, *]; done))))
    exact ⟨(p ++ [a3]), ⟨a8, (a2.trans a9), S, E.keep ⟨Y, Y, trivial⟩, (by exact Yn (by assumption) (by assumption)), (by exact Yt (by assumption) (by assumption)), (by simp; omega), (by exact vc (Q := fun z => z ∈ c1) (by assumption) (by first | assumption | (simp_all; done)))⟩, (by simp; omega)⟩
theorem S_Equal {M : Hp} {p0 : Nat} {v0 : Value} {c0 : List Int} (h0 : JH 145 M v0 c0) {p1 : Nat} {v1 : Value} {c1 : List Int} (h1 : JH 145 M v1 c1) (b0 : c0.length ≤ 1000000000) (b1 : c1.length ≤ 1000000000)  :
  Sp Tryz.prog (.func (.func 170) #[] #[]) M [.pointer (some ⟨p0, 0, none⟩), .iface 114 (.pointer (some ⟨p1, 0, none⟩))] [Qh p0 (.cells #[.int .i32 0, .int .u32 0, .int .u32 0, .int .u32 0, .int .i32 0, .int .i32 0, v0] 144), Qh p1 (.cells #[.int .i32 0, .int .u32 0, .int .u32 0, .int .u32 0, .int .i32 0, .int .i32 0, v1] 144)] (fun r M' C' => C' = [Qh p0 (.cells #[.int .i32 0, .int .u32 0, .int .u32 0, .int .u32 0, .int .i32 0, .int .i32 0, v0] 144), Qh p1 (.cells #[.int .i32 0, .int .u32 0, .int .u32 0, .int .u32 0, .int .i32 0, .int .i32 0, v1] 144)] ∧ (r = .bool (QT c0 c1 && QT c1 c0))) := by
 refine Qu Tryz.func170 Y Tryz.ntmps170 Y Tryz.call170 ?_
 intro a w M1 H hM1 S E
 replace S : St w M1 (Qh p0 (.cells #[.int .i32 0, .int .u32 0, .int .u32 0, .int .u32 0, .int .i32 0, .int .i32 0, v0] 144) :: Qh p1 (.cells #[.int .i32 0, .int .u32 0, .int .u32 0, .int .u32 0, .int .i32 0, .int .i32 0, v1] 144) :: _) := S
 replace h0 := h0.le hM1
 replace h1 := h1.le hM1
 have hset := h0
 obtain ⟨sb0, sm0, sq0, se0, shb0, shm0, shn0, shq0⟩ := hset
 have shq0l : sq0.length ≤ c0.length := Qn shn0 fun z hz => (shq0 z).1 hz
 have hset := h1
 obtain ⟨sb1, sm1, sq1, se1, shb1, shm1, shn1, shq1⟩ := hset
 have shq1l : sq1.length ≤ c1.length := Qn shn1 fun z hz => (shq1 z).1 hz
 refine QF (Qx E Y fun _ B => QZ (Qq B Y fun _ D => QS D (Jo D Y Tryz.underlying114 (by intro z hz; cases hz)) fun _ F => Qx F Y fun _ G => QZ (Qq G Y fun _ I => QS I (Qb I Y Y) fun _ J => Qa J Y (Qs _) ?_)))
 clear E a B D F G I J; intro a E
 replace S : St w M1 (LK p0 144 0 v0 :: _) := S
 refine QB (QI (p := [LK p0 144 0 v0]) E S Y Y Y (QX Tryz.rwRLib (T := 144) (n := 0) (by decide) (by decide)) lerf ?_)
 clear E a S; rintro a _ w a2 _ a0 ⟨rfl, rfl⟩ S E
 replace S : St w a2 (Qh p0 (.cells #[.int .i32 0, .int .u32 0, .int .u32 0, .int .u32 0, .int .i32 1, .int .i32 0, v0] 144) :: Qh p1 (.cells #[.int .i32 0, .int .u32 0, .int .u32 0, .int .u32 0, .int .i32 0, .int .i32 0, v1] 144) :: H) := S
 replace h0 := h0.le a0
 replace h1 := h1.le a0
 refine QZ (Qq E Y fun _ B => QS B (Qb B Y Y) fun _ D => Qa D Y (Qs _) ?_)
 clear E a B D; intro a E
 replace S := S.front1
 replace S : St w a2 (LK p1 144 0 v1 :: _) := S
 refine QB (QI (p := [LK p1 144 0 v1]) E S Y Y Y (QX Tryz.rwRLib (T := 144) (n := 0) (by decide) (by decide)) lerf ?_)
 clear E a S; rintro a _ w a3 _ a1 ⟨rfl, rfl⟩ S E
 replace S : St w a3 (Qh p1 (.cells #[.int .i32 0, .int .u32 0, .int .u32 0, .int .u32 0, .int .i32 1, .int .i32 0, v1] 144) :: Qh p0 (.cells #[.int .i32 0, .int .u32 0, .int .u32 0, .int .u32 0, .int .i32 1, .int .i32 0, v0] 144) :: H) := S
 replace h0 := h0.le a1
 replace h1 := h1.le a1
 refine ZB ?_
 replace S := S.mono_heap (w' := World.drew _) rfl
 refine QN (C := fun x w => agree a3 w ∧ (x = 3 → w.heap[p0]? = some (.cells #[.int .i32 0, .int .u32 0, .int .u32 0, .int .u32 0, .int .i32 1, .int .i32 0, v0] 144)) ∧ (x = 7 → w.heap[p1]? = some (.cells #[.int .i32 0, .int .u32 0, .int .u32 0, .int .u32 0, .int .i32 1, .int .i32 0, v1] 144))) (bf := (fun i => bif Nat.beq i 9 then [3, 7] else [])) [0, 1, 2, 3, 4, 5, 6, 7, 8, 10] [0, 1, 2, 3, 4, 5, 6, 7, 8, 9, 10] Tryz.mixed (by kernel_rfl) (fun x hq => ⟨S.imm, fun _ => (S.mem (.tail _ (.head _))), fun _ => (S.mem (.head _))⟩) ?_
 refine Qo E Y (fun w hC => (Qi E Y)) fun _ B => Qo B Y (fun w hC => (Qb B Y Y)) fun _ D => Qo D Y (fun w hC => (Ql D Y (QW _))) fun _ F => Qo F Y (fun w hC => (Jz F Y (Tryz.isAgg116 _) (QC (hC.2.1 Y) Y))) fun _ G => Qo G Y (fun w hC => (Qi G Y)) fun _ I => Qo I Y (fun w hC => (Qb I Y Y)) fun _ J => Qo J Y (fun w hC => (Ql J Y (QW _))) fun _ K => Qo K Y (fun w hC => (Jz K Y (Tryz.isAgg116 _) (QC (hC.2.2 Y) Y))) fun _ L => Qo L Y (fun w hC => (QV L Y Tryz.underlying116)) ?_
 clear E a B D F G I J K L; intro a E
 refine Zd Y Y Y (Jm E S Y Y Y (qj h0 h1 (by first | assumption | omega) (by first | assumption | omega)) lerf ?_)
 clear E a S; rintro a _ w a7 a4 rfl S E
 refine ⟨fun x hq hb => ⟨(Qg a4 S.imm), (fun e => by subst e; exact absurd hb (by decide)), (fun e => by subst e; exact absurd hb (by decide))⟩, ?_⟩
 refine Qo E Y (fun w hC => (Qy E Y)) ?_
 clear E a; intro a E
 refine Jv (Ju ?_)
 refine JG (QF (Qq E Y fun _ B => QS B (Qb B Y Y) fun _ D => Qa D Y (Qs _) ?_))
 clear E a B D; intro a E
 replace S := S.front1
 replace S : St w a7 (LK p0 144 (0 + 1) v0 :: _) := S
 refine QB (QI (p := [LK p0 144 (0 + 1) v0]) E S Y Y Y (QP Tryz.rwRLib (T := 144) (n := 0) (by decide) (by decide)) lerf ?_)
 clear E a S; rintro a _ w a5 _ a8 ⟨rfl, rfl⟩ S E
 replace S : St w a5 (Qh p0 (.cells #[.int .i32 0, .int .u32 0, .int .u32 0, .int .u32 0, .int .i32 0, .int .i32 0, v0] 144) :: Qh p1 (.cells #[.int .i32 0, .int .u32 0, .int .u32 0, .int .u32 0, .int .i32 1, .int .i32 0, v1] 144) :: H) := S
 refine QZ (Qq E Y fun _ B => QS B (Qb B Y Y) fun _ D => Qa D Y (Qs _) ?_)
 clear E a B D; intro a E
 replace S := S.front1
 replace S : St w a5 (LK p1 144 (0 + 1) v1 :: _) := S
 refine QB (QI (p := [LK p1 144 (0 + 1) v1]) E S Y Y Y (QP Tryz.rwRLib (T := 144) (n := 0) (by decide) (by decide)) lerf ?_)
 clear E a S; rintro a _ w a6 _ a9 ⟨rfl, rfl⟩ S E
 replace S : St w a6 (Qh p1 (.cells #[.int .i32 0, .int .u32 0, .int .u32 0, .int .u32 0, .int .i32 0, .int .i32 0, v1] 144) :: Qh p0 (.cells #[.int .i32 0, .int .u32 0, .int .u32 0, .int .u32 0, .int .i32 0, .int .i32 0, v0] 144) :: H) := S
 refine QZ (JR 2 E Y ?_)
 clear E a; intro a E
 refine JQ ?_
 replace S := S.front1
 exact Qk E Tryz.results170 Y ⟨_, Y, a6, _, (a0.trans (a1.trans (a4.trans (a8.trans a9)))), ⟨Y, Y⟩, S⟩
theorem AS_Equal {M : Hp} {p0 : Nat} {v0 : Value} {c0 : List Int} (h0 : JH 145 M v0 c0) (b0 : c0.length ≤ 1000000000)  :
  Sp Tryz.prog (.func (.func 170) #[] #[]) M [.pointer (some ⟨p0, 0, none⟩), .iface 114 (.pointer (some ⟨p0, 0, none⟩))] [Qh p0 (.cells #[.int .i32 0, .int .u32 0, .int .u32 0, .int .u32 0, .int .i32 0, .int .i32 0, v0] 144)] (fun r M' C' => C' = [Qh p0 (.cells #[.int .i32 0, .int .u32 0, .int .u32 0, .int .u32 0, .int .i32 0, .int .i32 0, v0] 144)] ∧ (r = .bool (QT c0 c0 && QT c0 c0))) := by
 refine Qu Tryz.func170 Y Tryz.ntmps170 Y Tryz.call170 ?_
 intro a w M1 H hM1 S E
 replace S : St w M1 (Qh p0 (.cells #[.int .i32 0, .int .u32 0, .int .u32 0, .int .u32 0, .int .i32 0, .int .i32 0, v0] 144) :: _) := S
 replace h0 := h0.le hM1
 have hset := h0
 obtain ⟨sb0, sm0, sq0, se0, shb0, shm0, shn0, shq0⟩ := hset
 have shq0l : sq0.length ≤ c0.length := Qn shn0 fun z hz => (shq0 z).1 hz
 refine QF (Qx E Y fun _ B => QZ (Qq B Y fun _ D => QS D (Jo D Y Tryz.underlying114 (by intro z hz; cases hz)) fun _ F => Qx F Y fun _ G => QZ (Qq G Y fun _ I => QS I (Qb I Y Y) fun _ J => Qa J Y (Qs _) ?_)))
 clear E a B D F G I J; intro a E
 replace S : St w M1 (LK p0 144 0 v0 :: _) := S
 refine QB (QI (p := [LK p0 144 0 v0]) E S Y Y Y (QX Tryz.rwRLib (T := 144) (n := 0) (by decide) (by decide)) lerf ?_)
 clear E a S; rintro a _ w a0 _ a1 ⟨rfl, rfl⟩ S E
 replace S : St w a0 (Qh p0 (.cells #[.int .i32 0, .int .u32 0, .int .u32 0, .int .u32 0, .int .i32 1, .int .i32 0, v0] 144) :: H) := S
 replace h0 := h0.le a1
 refine QZ (Qq E Y fun _ B => QS B (Qb B Y Y) fun _ D => Qa D Y (Qs _) ?_)
 clear E a B D; intro a E
 replace S : St w a0 (LK p0 144 1 v0 :: _) := S
 refine QB (QI (p := [LK p0 144 1 v0]) E S Y Y Y (QX Tryz.rwRLib (T := 144) (n := 1) (by decide) (by decide)) lerf ?_)
 clear E a S; rintro a _ w a2 _ a3 ⟨rfl, rfl⟩ S E
 replace S : St w a2 (Qh p0 (.cells #[.int .i32 0, .int .u32 0, .int .u32 0, .int .u32 0, .int .i32 2, .int .i32 0, v0] 144) :: H) := S
 replace h0 := h0.le a3
 refine ZB ?_
 replace S := S.mono_heap (w' := World.drew _) rfl
 refine QN (C := fun x w => agree a2 w ∧ (x = 3 → w.heap[p0]? = some (.cells #[.int .i32 0, .int .u32 0, .int .u32 0, .int .u32 0, .int .i32 2, .int .i32 0, v0] 144)) ∧ (x = 7 → w.heap[p0]? = some (.cells #[.int .i32 0, .int .u32 0, .int .u32 0, .int .u32 0, .int .i32 2, .int .i32 0, v0] 144))) (bf := (fun i => bif Nat.beq i 9 then [3, 7] else [])) [0, 1, 2, 3, 4, 5, 6, 7, 8, 10] [0, 1, 2, 3, 4, 5, 6, 7, 8, 9, 10] Tryz.mixed (by kernel_rfl) (fun x hq => ⟨S.imm, fun _ => (S.mem (.head _)), fun _ => (S.mem (.head _))⟩) ?_
 refine Qo E Y (fun w hC => (Qi E Y)) fun _ B => Qo B Y (fun w hC => (Qb B Y Y)) fun _ D => Qo D Y (fun w hC => (Ql D Y (QW _))) fun _ F => Qo F Y (fun w hC => (Jz F Y (Tryz.isAgg116 _) (QC (hC.2.1 Y) Y))) fun _ G => Qo G Y (fun w hC => (Qi G Y)) fun _ I => Qo I Y (fun w hC => (Qb I Y Y)) fun _ J => Qo J Y (fun w hC => (Ql J Y (QW _))) fun _ K => Qo K Y (fun w hC => (Jz K Y (Tryz.isAgg116 _) (QC (hC.2.2 Y) Y))) fun _ L => Qo L Y (fun w hC => (QV L Y Tryz.underlying116)) ?_
 clear E a B D F G I J K L; intro a E
 refine Zd Y Y Y (Jm E S Y Y Y (qj h0 h0 (by first | assumption | omega) (by first | assumption | omega)) lerf ?_)
 clear E a S; rintro a _ w a7 a4 rfl S E
 refine ⟨fun x hq hb => ⟨(Qg a4 S.imm), (fun e => by subst e; exact absurd hb (by decide)), (fun e => by subst e; exact absurd hb (by decide))⟩, ?_⟩
 refine Qo E Y (fun w hC => (Qy E Y)) ?_
 clear E a; intro a E
 refine Jv (Ju ?_)
 refine JG (QF (Qq E Y fun _ B => QS B (Qb B Y Y) fun _ D => Qa D Y (Qs _) ?_))
 clear E a B D; intro a E
 replace S : St w a7 (LK p0 144 (1 + 1) v0 :: _) := S
 refine QB (QI (p := [LK p0 144 (1 + 1) v0]) E S Y Y Y (QP Tryz.rwRLib (T := 144) (n := 1) (by decide) (by decide)) lerf ?_)
 clear E a S; rintro a _ w a5 _ a8 ⟨rfl, rfl⟩ S E
 replace S : St w a5 (Qh p0 (.cells #[.int .i32 0, .int .u32 0, .int .u32 0, .int .u32 0, .int .i32 1, .int .i32 0, v0] 144) :: H) := S
 refine QZ (Qq E Y fun _ B => QS B (Qb B Y Y) fun _ D => Qa D Y (Qs _) ?_)
 clear E a B D; intro a E
 replace S : St w a5 (LK p0 144 (0 + 1) v0 :: _) := S
 refine QB (QI (p := [LK p0 144 (0 + 1) v0]) E S Y Y Y (QP Tryz.rwRLib (T := 144) (n := 0) (by decide) (by decide)) lerf ?_)
 clear E a S; rintro a _ w a6 _ a9 ⟨rfl, rfl⟩ S E
 replace S : St w a6 (Qh p0 (.cells #[.int .i32 0, .int .u32 0, .int .u32 0, .int .u32 0, .int .i32 0, .int .i32 0, v0] 144) :: H) := S
 refine QZ (JR 2 E Y ?_)
 clear E a; intro a E
 refine JQ ?_
 exact Qk E Tryz.results170 Y ⟨_, Y, a6, _, (a1.trans (a3.trans (a4.trans (a8.trans a9)))), ⟨Y, Y⟩, S⟩
theorem vD {M : Hp} {x0 : Bool} {v : Value} {t : List RG} {i : Nat} {x : RG} {j : Nat} {y : RG} (hx : t[i]? = some x) (hy : t[j]? = some y) (hb : x.2.2.length ≤ 1000000000) (hb2 : y.2.2.length ≤ 1000000000) :
  QD Tryz.prog (Zx KS x0 x) "Equal" M [Zx KS x0 y] [QK KS x0 v t] (fun r _ C' => ∃ D, C' = QK KS x0 v t :: D ∧ (r = (.bool (QT x.2.2 y.2.2 && QT y.2.2 x.2.2)) ∧ D = [])) := by
 refine ZX hx hy (fun M' hM hr hs => ?_) (fun e M' hM hr => ?_)
 ·cases x0
  ·exact ZM (F := [Zc KS false x, Zc KS false y]) (QD.of_pu (fun w => Ux _ w) Tryz.call194 (qj hr hs hb hb2)) fun r M2 C h => h
  ·exact (QD.of_sp (fun w => UB _ w) Tryz.call170 (S_Equal hr hs hb hb2)).mono fun r M2 C ⟨h1, h2⟩ => ⟨[], h1, h2, Y⟩
 ·subst e
  cases x0
  ·exact ZM (F := [Zc KS false y]) (QD.of_pu (fun w => Ux _ w) Tryz.call194 (qj hr hr hb hb)) fun r M2 C h => h
  ·exact (QD.of_sp (fun w => UB _ w) Tryz.call170 (AS_Equal hr hb)).mono fun r M2 C ⟨h1, h2⟩ => ⟨[], h1, h2, Y⟩
theorem YX {M : Hp} {v0 : Value} {c0 : List Int} (h0 : JH 145 M v0 c0) {v1 : Value} {c1 : List Int} (h1 : JH 145 M v1 c1) (b0 : c0.length ≤ 1000000000) (b1 : c1.length ≤ 1000000000)  :
  Pu Tryz.prog (.func (.func 197) #[] #[]) M [v0, .iface 116 v1] (fun r M' => r = .bool (QT c0 c1)) := by
 refine Jt Tryz.func197 Y Tryz.ntmps197 Y Tryz.call197 ?_
 intro a w M1 H hM1 S E
 replace h0 := h0.le hM1
 replace h1 := h1.le hM1
 have hcl0 := JY c0
 have hcl1 := JY c1
 refine QF (Qx E Y fun _ B => QZ (Qq B Y fun _ C => QS C (Jo C Y Tryz.underlying116 (by intro z hz; cases hz)) fun _ D => Qx D Y fun _ F => VM (Qq F Y ?_)))
 clear E a B C D F; intro a E
 refine QB (Jm E S Y Y Y (QR h0 (by first | assumption | omega)) lerf ?_)
 clear E a S; rintro a _ w b4 a0 rfl S E
 replace h0 := h0.le a0
 replace h1 := h1.le a0
 refine Qq E Y ?_
 clear E a; intro a E
 refine QB (qT E S Y Y Y (JO _ _) Tryz.call205 (QR h1 (by first | assumption | omega)) lerf ?_)
 clear E a S; rintro a _ w a4 a1 rfl S E
 replace h0 := h0.le a1
 replace h1 := h1.le a1
 refine Ws E Y Y ?_
 clear E a; intro a E
 refine Jx ?_
 refine QJ E Y (fun b2 => ?_) (fun b2 => ?_)
 ·refine QF (Qx E Y ?_)
  clear E a; intro a E
  refine WF ?_
  exact Qk E Tryz.results197 Y ⟨_, Y, a4, (a0.trans a1), (cgB (by (first | exact (zG (by first | assumption | exact List.Perm.symm (by assumption)) shq0 (by assumption)).symm | exact (zH (k := _) (by assumption) shq0 (by simp_all)).symm | exact (YB (by omega)).symm))), S⟩
 ·refine J_q (Qq E Y ?_)
  clear E a; intro a E
  have hset := h0
  obtain ⟨sb0, sm0, sq0, se0, shb0, shm0, shn0, shq0⟩ := hset
  have shq0l : sq0.length ≤ c0.length := Qn shn0 fun z hz => (shq0 z).1 hz
  refine QS E (Qb E Y se0) fun _ B => zw B Y (QG B (congrArg some se0) Tryz.isAgg145 S.imm (Jn shb0)) Y ?_
  clear E a B; intro a E
  refine QB (Zz E S Y JJ shm0 Y ?_)
  clear E a S; rintro a w a7 es_5 ck_6 E a5 S
  replace S : St w a4 (Ys sm0 es_5 ck_6 a7 (Sl.encS ([] : List Int)) :: _) := S
  refine VJ ?_
  replace S := S.reIt (p' := (Sl.encS [])) (congrArg Sl.encS (show ([] : List Int) = [] by (first | rfl | (simp [Qe]; done) | (simp [Qe, List.filter_append, *]; done))))
  refine Jb (γ := List Int) (fun (p : List Int) a w => ∃ (a6 : Hp), Hp.le a4 a6 ∧ St w a6 (Ys sm0 es_5 ck_6 a7 (Sl.encS p) :: H) ∧ Env a 26 [] [(5, v1), (17, .pointer (some ⟨a7, 0, none⟩))] ∧ (p.Nodup) ∧ (∀ z ∈ p, z ∈ sq0) ∧ (p.length ≤ sq0.length) ∧ (∀ z ∈ p, z ∈ c1)) (fun p => sq0.length - p.length) [] ⟨a4, lerf, S, E.keep ⟨Y, Y, trivial⟩, (by simp), (by simp), (by simp), (by simp)⟩ ?_
  try clear E
  try clear S
  try clear a
  try clear w
  rintro p a w ⟨a6, a2, S, E, b5, b6, b7, b8⟩
  replace h1 := h1.le a2
  replace a5 := a5.le a2
  refine QF ?_
  refine QB (ZK E S Y a5 Y (by assumption) (by assumption) ?_ ?_)
  ·clear E a S; rintro a E hpm_9 S
   refine Qj E Y Y ?_
   clear E a; intro a E
   refine ZB ?_
   refine QL E Y Y ?_
   refine Um (Qx E Y ?_)
   clear E a; intro a E
   refine JQ ?_
   exact Qk E Tryz.results197 Y ⟨_, Y, a6, (a0.trans (a1.trans a2)), (cgB (by (first | exact (zG (by first | assumption | exact List.Perm.symm (by assumption)) shq0 (by assumption)).symm | exact (zH (k := _) (by assumption) shq0 (by simp_all)).symm | exact (YB (by omega)).symm))), S.drop⟩
  ·clear E a S w; rintro a w a3 E hk_11 hk_11n hk_11l S
   refine Qj E Y Y ?_
   clear E a; intro a E
   refine ZB ?_
   refine Jj E Y Y ?_
   refine Ja (JG (Jw (QF (Zy (k := a3) (v := .agg #[]) E (by have S1 := S; simp only [Sl.encS, List.map_append, List.map_cons, List.map_nil] at S1; exact S1) a5 Y fun _ B => Qj B Y Y fun _ C => Qx C Y fun _ D => QZ (JR 2 D Y ?_)))))
   clear E a B C D; intro a E
   refine QB (Jm E S Y Y Y (ZQ h1 (by first | assumption | omega)) lerf ?_)
   clear E a S; rintro a _ w a8 a9 rfl S E
   refine Zk E Y ?_
   clear E a; intro a E
   refine Jx ?_
   refine Yl E Y (fun b3 => ?_) (fun b3 => ?_)
   ·refine Za ?_
    refine Qr (Qx E Y ?_)
    clear E a; intro a E
    refine J_r (jd (qW ?_))
    exact Qk E Tryz.results197 Y ⟨_, Y, a8, (a0.trans (a1.trans (a2.trans a9))), (cgB (by (first | exact (zG (by first | assumption | exact List.Perm.symm (by assumption)) shq0 (by assumption)).symm | exact (zH (k := _) (by assumption) shq0 (by simp_all)).symm | exact (YB (by omega)).symm))), S.drop⟩
   ·refine Ja ?_
    refine ZN (JG ?_)
    replace S := S.reIt (p' := (Sl.encS (p ++ [a3]))) (congrArg Sl.encS (show p ++ [a3] = (p ++ [a3]) by (first | rfl | (simp [Qe]; done) | (simp [Qe, List.filter_append, *]; done))))
    exact ⟨(p ++ [a3]), ⟨a8, (a2.trans a9), S, E.keep ⟨Y, Y, trivial⟩, (by exact Yn (by assumption) (by assumption)), (by exact Yt (by assumption) (by assumption)), (by simp; omega), (by exact vc (Q := fun z => z ∈ c1) (by assumption) (by first | assumption | (simp_all; done)))⟩, (by simp; omega)⟩
theorem qY {M : Hp} {p0 : Nat} {v0 : Value} {c0 : List Int} (h0 : JH 145 M v0 c0) {p1 : Nat} {v1 : Value} {c1 : List Int} (h1 : JH 145 M v1 c1) (b0 : c0.length ≤ 1000000000) (b1 : c1.length ≤ 1000000000)  :
  Sp Tryz.prog (.func (.func 175) #[] #[]) M [.pointer (some ⟨p0, 0, none⟩), .iface 114 (.pointer (some ⟨p1, 0, none⟩))] [Qh p0 (.cells #[.int .i32 0, .int .u32 0, .int .u32 0, .int .u32 0, .int .i32 0, .int .i32 0, v0] 144), Qh p1 (.cells #[.int .i32 0, .int .u32 0, .int .u32 0, .int .u32 0, .int .i32 0, .int .i32 0, v1] 144)] (fun r M' C' => C' = [Qh p0 (.cells #[.int .i32 0, .int .u32 0, .int .u32 0, .int .u32 0, .int .i32 0, .int .i32 0, v0] 144), Qh p1 (.cells #[.int .i32 0, .int .u32 0, .int .u32 0, .int .u32 0, .int .i32 0, .int .i32 0, v1] 144)] ∧ (r = .bool (QT c0 c1))) := by
 refine Qu Tryz.func175 Y Tryz.ntmps175 Y Tryz.call175 ?_
 intro a w M1 H hM1 S E
 replace S : St w M1 (Qh p0 (.cells #[.int .i32 0, .int .u32 0, .int .u32 0, .int .u32 0, .int .i32 0, .int .i32 0, v0] 144) :: Qh p1 (.cells #[.int .i32 0, .int .u32 0, .int .u32 0, .int .u32 0, .int .i32 0, .int .i32 0, v1] 144) :: _) := S
 replace h0 := h0.le hM1
 replace h1 := h1.le hM1
 have hset := h0
 obtain ⟨sb0, sm0, sq0, se0, shb0, shm0, shn0, shq0⟩ := hset
 have shq0l : sq0.length ≤ c0.length := Qn shn0 fun z hz => (shq0 z).1 hz
 have hset := h1
 obtain ⟨sb1, sm1, sq1, se1, shb1, shm1, shn1, shq1⟩ := hset
 have shq1l : sq1.length ≤ c1.length := Qn shn1 fun z hz => (shq1 z).1 hz
 refine QF (Qx E Y fun _ B => QZ (Qq B Y fun _ D => QS D (Jo D Y Tryz.underlying114 (by intro z hz; cases hz)) fun _ F => Qx F Y fun _ G => QZ (Qq G Y fun _ I => QS I (Qb I Y Y) fun _ J => Qa J Y (Qs _) ?_)))
 clear E a B D F G I J; intro a E
 replace S : St w M1 (LK p0 144 0 v0 :: _) := S
 refine QB (QI (p := [LK p0 144 0 v0]) E S Y Y Y (QX Tryz.rwRLib (T := 144) (n := 0) (by decide) (by decide)) lerf ?_)
 clear E a S; rintro a _ w a2 _ a0 ⟨rfl, rfl⟩ S E
 replace S : St w a2 (Qh p0 (.cells #[.int .i32 0, .int .u32 0, .int .u32 0, .int .u32 0, .int .i32 1, .int .i32 0, v0] 144) :: Qh p1 (.cells #[.int .i32 0, .int .u32 0, .int .u32 0, .int .u32 0, .int .i32 0, .int .i32 0, v1] 144) :: H) := S
 replace h0 := h0.le a0
 replace h1 := h1.le a0
 refine QZ (Qq E Y fun _ B => QS B (Qb B Y Y) fun _ D => Qa D Y (Qs _) ?_)
 clear E a B D; intro a E
 replace S := S.front1
 replace S : St w a2 (LK p1 144 0 v1 :: _) := S
 refine QB (QI (p := [LK p1 144 0 v1]) E S Y Y Y (QX Tryz.rwRLib (T := 144) (n := 0) (by decide) (by decide)) lerf ?_)
 clear E a S; rintro a _ w a3 _ a1 ⟨rfl, rfl⟩ S E
 replace S : St w a3 (Qh p1 (.cells #[.int .i32 0, .int .u32 0, .int .u32 0, .int .u32 0, .int .i32 1, .int .i32 0, v1] 144) :: Qh p0 (.cells #[.int .i32 0, .int .u32 0, .int .u32 0, .int .u32 0, .int .i32 1, .int .i32 0, v0] 144) :: H) := S
 replace h0 := h0.le a1
 replace h1 := h1.le a1
 refine ZB ?_
 replace S := S.mono_heap (w' := World.drew _) rfl
 refine QN (C := fun x w => agree a3 w ∧ (x = 3 → w.heap[p0]? = some (.cells #[.int .i32 0, .int .u32 0, .int .u32 0, .int .u32 0, .int .i32 1, .int .i32 0, v0] 144)) ∧ (x = 7 → w.heap[p1]? = some (.cells #[.int .i32 0, .int .u32 0, .int .u32 0, .int .u32 0, .int .i32 1, .int .i32 0, v1] 144))) (bf := (fun i => bif Nat.beq i 9 then [3, 7] else [])) [0, 1, 2, 3, 4, 5, 6, 7, 8, 10] [0, 1, 2, 3, 4, 5, 6, 7, 8, 9, 10] Tryz.mixed (by kernel_rfl) (fun x hq => ⟨S.imm, fun _ => (S.mem (.tail _ (.head _))), fun _ => (S.mem (.head _))⟩) ?_
 refine Qo E Y (fun w hC => (Qi E Y)) fun _ B => Qo B Y (fun w hC => (Qb B Y Y)) fun _ D => Qo D Y (fun w hC => (Ql D Y (QW _))) fun _ F => Qo F Y (fun w hC => (Jz F Y (Tryz.isAgg116 _) (QC (hC.2.1 Y) Y))) fun _ G => Qo G Y (fun w hC => (Qi G Y)) fun _ I => Qo I Y (fun w hC => (Qb I Y Y)) fun _ J => Qo J Y (fun w hC => (Ql J Y (QW _))) fun _ K => Qo K Y (fun w hC => (Jz K Y (Tryz.isAgg116 _) (QC (hC.2.2 Y) Y))) fun _ L => Qo L Y (fun w hC => (QV L Y Tryz.underlying116)) ?_
 clear E a B D F G I J K L; intro a E
 refine Zd Y Y Y (Jm E S Y Y Y (YX h0 h1 (by first | assumption | omega) (by first | assumption | omega)) lerf ?_)
 clear E a S; rintro a _ w a7 a4 rfl S E
 refine ⟨fun x hq hb => ⟨(Qg a4 S.imm), (fun e => by subst e; exact absurd hb (by decide)), (fun e => by subst e; exact absurd hb (by decide))⟩, ?_⟩
 refine Qo E Y (fun w hC => (Qy E Y)) ?_
 clear E a; intro a E
 refine Jv (Ju ?_)
 refine JG (QF (Qq E Y fun _ B => QS B (Qb B Y Y) fun _ D => Qa D Y (Qs _) ?_))
 clear E a B D; intro a E
 replace S := S.front1
 replace S : St w a7 (LK p0 144 (0 + 1) v0 :: _) := S
 refine QB (QI (p := [LK p0 144 (0 + 1) v0]) E S Y Y Y (QP Tryz.rwRLib (T := 144) (n := 0) (by decide) (by decide)) lerf ?_)
 clear E a S; rintro a _ w a5 _ a8 ⟨rfl, rfl⟩ S E
 replace S : St w a5 (Qh p0 (.cells #[.int .i32 0, .int .u32 0, .int .u32 0, .int .u32 0, .int .i32 0, .int .i32 0, v0] 144) :: Qh p1 (.cells #[.int .i32 0, .int .u32 0, .int .u32 0, .int .u32 0, .int .i32 1, .int .i32 0, v1] 144) :: H) := S
 refine QZ (Qq E Y fun _ B => QS B (Qb B Y Y) fun _ D => Qa D Y (Qs _) ?_)
 clear E a B D; intro a E
 replace S := S.front1
 replace S : St w a5 (LK p1 144 (0 + 1) v1 :: _) := S
 refine QB (QI (p := [LK p1 144 (0 + 1) v1]) E S Y Y Y (QP Tryz.rwRLib (T := 144) (n := 0) (by decide) (by decide)) lerf ?_)
 clear E a S; rintro a _ w a6 _ a9 ⟨rfl, rfl⟩ S E
 replace S : St w a6 (Qh p1 (.cells #[.int .i32 0, .int .u32 0, .int .u32 0, .int .u32 0, .int .i32 0, .int .i32 0, v1] 144) :: Qh p0 (.cells #[.int .i32 0, .int .u32 0, .int .u32 0, .int .u32 0, .int .i32 0, .int .i32 0, v0] 144) :: H) := S
 refine QZ (JR 2 E Y ?_)
 clear E a; intro a E
 refine JQ ?_
 replace S := S.front1
 exact Qk E Tryz.results175 Y ⟨_, Y, a6, _, (a0.trans (a1.trans (a4.trans (a8.trans a9)))), ⟨Y, Y⟩, S⟩
theorem GS {M : Hp} {p0 : Nat} {v0 : Value} {c0 : List Int} (h0 : JH 145 M v0 c0) (b0 : c0.length ≤ 1000000000)  :
  Sp Tryz.prog (.func (.func 175) #[] #[]) M [.pointer (some ⟨p0, 0, none⟩), .iface 114 (.pointer (some ⟨p0, 0, none⟩))] [Qh p0 (.cells #[.int .i32 0, .int .u32 0, .int .u32 0, .int .u32 0, .int .i32 0, .int .i32 0, v0] 144)] (fun r M' C' => C' = [Qh p0 (.cells #[.int .i32 0, .int .u32 0, .int .u32 0, .int .u32 0, .int .i32 0, .int .i32 0, v0] 144)] ∧ (r = .bool (QT c0 c0))) := by
 refine Qu Tryz.func175 Y Tryz.ntmps175 Y Tryz.call175 ?_
 intro a w M1 H hM1 S E
 replace S : St w M1 (Qh p0 (.cells #[.int .i32 0, .int .u32 0, .int .u32 0, .int .u32 0, .int .i32 0, .int .i32 0, v0] 144) :: _) := S
 replace h0 := h0.le hM1
 have hset := h0
 obtain ⟨sb0, sm0, sq0, se0, shb0, shm0, shn0, shq0⟩ := hset
 have shq0l : sq0.length ≤ c0.length := Qn shn0 fun z hz => (shq0 z).1 hz
 refine QF (Qx E Y fun _ B => QZ (Qq B Y fun _ D => QS D (Jo D Y Tryz.underlying114 (by intro z hz; cases hz)) fun _ F => Qx F Y fun _ G => QZ (Qq G Y fun _ I => QS I (Qb I Y Y) fun _ J => Qa J Y (Qs _) ?_)))
 clear E a B D F G I J; intro a E
 replace S : St w M1 (LK p0 144 0 v0 :: _) := S
 refine QB (QI (p := [LK p0 144 0 v0]) E S Y Y Y (QX Tryz.rwRLib (T := 144) (n := 0) (by decide) (by decide)) lerf ?_)
 clear E a S; rintro a _ w a0 _ a1 ⟨rfl, rfl⟩ S E
 replace S : St w a0 (Qh p0 (.cells #[.int .i32 0, .int .u32 0, .int .u32 0, .int .u32 0, .int .i32 1, .int .i32 0, v0] 144) :: H) := S
 replace h0 := h0.le a1
 refine QZ (Qq E Y fun _ B => QS B (Qb B Y Y) fun _ D => Qa D Y (Qs _) ?_)
 clear E a B D; intro a E
 replace S : St w a0 (LK p0 144 1 v0 :: _) := S
 refine QB (QI (p := [LK p0 144 1 v0]) E S Y Y Y (QX Tryz.rwRLib (T := 144) (n := 1) (by decide) (by decide)) lerf ?_)
 clear E a S; rintro a _ w a2 _ a3 ⟨rfl, rfl⟩ S E
 replace S : St w a2 (Qh p0 (.cells #[.int .i32 0, .int .u32 0, .int .u32 0, .int .u32 0, .int .i32 2, .int .i32 0, v0] 144) :: H) := S
 replace h0 := h0.le a3
 refine ZB ?_
 replace S := S.mono_heap (w' := World.drew _) rfl
 refine QN (C := fun x w => agree a2 w ∧ (x = 3 → w.heap[p0]? = some (.cells #[.int .i32 0, .int .u32 0, .int .u32 0, .int .u32 0, .int .i32 2, .int .i32 0, v0] 144)) ∧ (x = 7 → w.heap[p0]? = some (.cells #[.int .i32 0, .int .u32 0, .int .u32 0, .int .u32 0, .int .i32 2, .int .i32 0, v0] 144))) (bf := (fun i => bif Nat.beq i 9 then [3, 7] else [])) [0, 1, 2, 3, 4, 5, 6, 7, 8, 10] [0, 1, 2, 3, 4, 5, 6, 7, 8, 9, 10] Tryz.mixed (by kernel_rfl) (fun x hq => ⟨S.imm, fun _ => (S.mem (.head _)), fun _ => (S.mem (.head _))⟩) ?_
 refine Qo E Y (fun w hC => (Qi E Y)) fun _ B => Qo B Y (fun w hC => (Qb B Y Y)) fun _ D => Qo D Y (fun w hC => (Ql D Y (QW _))) fun _ F => Qo F Y (fun w hC => (Jz F Y (Tryz.isAgg116 _) (QC (hC.2.1 Y) Y))) fun _ G => Qo G Y (fun w hC => (Qi G Y)) fun _ I => Qo I Y (fun w hC => (Qb I Y Y)) fun _ J => Qo J Y (fun w hC => (Ql J Y (QW _))) fun _ K => Qo K Y (fun w hC => (Jz K Y (Tryz.isAgg116 _) (QC (hC.2.2 Y) Y))) fun _ L => Qo L Y (fun w hC => (QV L Y Tryz.underlying116)) ?_
 clear E a B D F G I J K L; intro a E
 refine Zd Y Y Y (Jm E S Y Y Y (YX h0 h0 (by first | assumption | omega) (by first | assumption | omega)) lerf ?_)
 clear E a S; rintro a _ w a7 a4 rfl S E
 refine ⟨fun x hq hb => ⟨(Qg a4 S.imm), (fun e => by subst e; exact absurd hb (by decide)), (fun e => by subst e; exact absurd hb (by decide))⟩, ?_⟩
 refine Qo E Y (fun w hC => (Qy E Y)) ?_
 clear E a; intro a E
 refine Jv (Ju ?_)
 refine JG (QF (Qq E Y fun _ B => QS B (Qb B Y Y) fun _ D => Qa D Y (Qs _) ?_))
 clear E a B D; intro a E
 replace S : St w a7 (LK p0 144 (1 + 1) v0 :: _) := S
 refine QB (QI (p := [LK p0 144 (1 + 1) v0]) E S Y Y Y (QP Tryz.rwRLib (T := 144) (n := 1) (by decide) (by decide)) lerf ?_)
 clear E a S; rintro a _ w a5 _ a8 ⟨rfl, rfl⟩ S E
 replace S : St w a5 (Qh p0 (.cells #[.int .i32 0, .int .u32 0, .int .u32 0, .int .u32 0, .int .i32 1, .int .i32 0, v0] 144) :: H) := S
 refine QZ (Qq E Y fun _ B => QS B (Qb B Y Y) fun _ D => Qa D Y (Qs _) ?_)
 clear E a B D; intro a E
 replace S : St w a5 (LK p0 144 (0 + 1) v0 :: _) := S
 refine QB (QI (p := [LK p0 144 (0 + 1) v0]) E S Y Y Y (QP Tryz.rwRLib (T := 144) (n := 0) (by decide) (by decide)) lerf ?_)
 clear E a S; rintro a _ w a6 _ a9 ⟨rfl, rfl⟩ S E
 replace S : St w a6 (Qh p0 (.cells #[.int .i32 0, .int .u32 0, .int .u32 0, .int .u32 0, .int .i32 0, .int .i32 0, v0] 144) :: H) := S
 refine QZ (JR 2 E Y ?_)
 clear E a; intro a E
 refine JQ ?_
 exact Qk E Tryz.results175 Y ⟨_, Y, a6, _, (a1.trans (a3.trans (a4.trans (a8.trans a9)))), ⟨Y, Y⟩, S⟩
theorem je {M : Hp} {x0 : Bool} {v : Value} {t : List RG} {i : Nat} {x : RG} {j : Nat} {y : RG} (hx : t[i]? = some x) (hy : t[j]? = some y) (hb : x.2.2.length ≤ 1000000000) (hb2 : y.2.2.length ≤ 1000000000) :
  QD Tryz.prog (Zx KS x0 x) "IsSubset" M [Zx KS x0 y] [QK KS x0 v t] (fun r _ C' => ∃ D, C' = QK KS x0 v t :: D ∧ (r = (.bool (QT x.2.2 y.2.2)) ∧ D = [])) := by
 refine ZX hx hy (fun M' hM hr hs => ?_) (fun e M' hM hr => ?_)
 ·cases x0
  ·exact ZM (F := [Zc KS false x, Zc KS false y]) (QD.of_pu (fun w => YG _ w) Tryz.call197 (YX hr hs hb hb2)) fun r M2 C h => h
  ·exact (QD.of_sp (fun w => Ya _ w) Tryz.call175 (qY hr hs hb hb2)).mono fun r M2 C ⟨h1, h2⟩ => ⟨[], h1, h2, Y⟩
 ·subst e
  cases x0
  ·exact ZM (F := [Zc KS false y]) (QD.of_pu (fun w => YG _ w) Tryz.call197 (YX hr hr hb hb)) fun r M2 C h => h
  ·exact (QD.of_sp (fun w => Ya _ w) Tryz.call175 (GS hr hb)).mono fun r M2 C ⟨h1, h2⟩ => ⟨[], h1, h2, Y⟩
theorem Ym {M : Hp} {v0 : Value} {c0 : List Int} (h0 : JH 145 M v0 c0) {v1 : Value} {c1 : List Int} (h1 : JH 145 M v1 c1) (b0 : c0.length ≤ 1000000000) (b1 : c1.length ≤ 1000000000)  :
  Pu Tryz.prog (.func (.func 196) #[] #[]) M [v0, .iface 116 v1] (fun r M' => r = .bool ((decide (Jd c0 < Jd c1)) && QT c0 c1)) := by
 refine Jt Tryz.func196 Y Tryz.ntmps196 Y Tryz.call196 ?_
 intro a w M1 H hM1 S E
 replace h0 := h0.le hM1
 replace h1 := h1.le hM1
 have hcl0 := JY c0
 have hcl1 := JY c1
 refine QF (Qx E Y fun _ B => QZ (Qq B Y ?_))
 clear E a B; intro a E
 refine QB (Jm E S Y Y Y (QR h0 (by first | assumption | omega)) lerf ?_)
 clear E a S; rintro a _ w a6 a1 rfl S E
 replace h0 := h0.le a1
 replace h1 := h1.le a1
 refine Qq E Y ?_
 clear E a; intro a E
 refine QB (qT E S Y Y Y (JO _ _) Tryz.call205 (QR h1 (by first | assumption | omega)) lerf ?_)
 clear E a S; rintro a _ w a3 a2 rfl S E
 replace h0 := h0.le a2
 replace h1 := h1.le a2
 refine ZG E Y Y fun _ B => Qq B Y ?_
 clear E a B; intro a E
 refine QO (decide (((Jd c0 : Nat) : Int) < ((Jd c1 : Nat) : Int))) (fun a0 => ?_) (fun a0 => ?_)
 ·replace E := E.val (t := 9) Y a0
  replace E := E.val (t := 10) Y a0
  replace a0 := of_decide_eq_true a0
  refine Qc E Y Y (Qq E Y fun _ B => Qc B Y Y (Qq B Y ?_))
  clear E a B; intro a E
  refine Qc E Y Y ?_
  refine QB (Jm E S Y Y Y (YX h0 h1 (by first | assumption | omega) (by first | assumption | omega)) lerf ?_)
  clear E a S; rintro a _ w a4 a5 rfl S E
  refine JI E Y Y fun _ B => Qx B Y ?_
  clear E a B; intro a E
  refine JQ ?_
  exact Qk E Tryz.results196 Y ⟨_, Y, a4, (a1.trans (a2.trans a5)), (cgB (by (first | rfl | (simp_all; done) | (rw [decide_eq_false (by omega)]; rfl) | (rw [decide_eq_true (by omega), Bool.true_and])))), S⟩
 ·replace E := E.val (t := 9) Y a0
  replace E := E.val (t := 10) Y a0
  replace a0 := of_decide_eq_false a0
  refine Qd E Y Y Y Y fun _ B => Qd B Y Y Y Y fun _ C => Qd C Y Y Y Y fun _ D => QU D Y Y fun _ F => Qx F Y ?_
  clear E a B C D F; intro a E
  refine JQ ?_
  exact Qk E Tryz.results196 Y ⟨_, Y, a3, (a1.trans a2), (cgB (by (first | rfl | (simp_all; done) | (rw [decide_eq_false (by omega)]; rfl) | (rw [decide_eq_true (by omega), Bool.true_and])))), S⟩
theorem VV {M : Hp} {p0 : Nat} {v0 : Value} {c0 : List Int} (h0 : JH 145 M v0 c0) {p1 : Nat} {v1 : Value} {c1 : List Int} (h1 : JH 145 M v1 c1) (b0 : c0.length ≤ 1000000000) (b1 : c1.length ≤ 1000000000)  :
  Sp Tryz.prog (.func (.func 173) #[] #[]) M [.pointer (some ⟨p0, 0, none⟩), .iface 114 (.pointer (some ⟨p1, 0, none⟩))] [Qh p0 (.cells #[.int .i32 0, .int .u32 0, .int .u32 0, .int .u32 0, .int .i32 0, .int .i32 0, v0] 144), Qh p1 (.cells #[.int .i32 0, .int .u32 0, .int .u32 0, .int .u32 0, .int .i32 0, .int .i32 0, v1] 144)] (fun r M' C' => C' = [Qh p0 (.cells #[.int .i32 0, .int .u32 0, .int .u32 0, .int .u32 0, .int .i32 0, .int .i32 0, v0] 144), Qh p1 (.cells #[.int .i32 0, .int .u32 0, .int .u32 0, .int .u32 0, .int .i32 0, .int .i32 0, v1] 144)] ∧ (r = .bool ((decide (Jd c0 < Jd c1)) && QT c0 c1))) := by
 refine Qu Tryz.func173 Y Tryz.ntmps173 Y Tryz.call173 ?_
 intro a w M1 H hM1 S E
 replace S : St w M1 (Qh p0 (.cells #[.int .i32 0, .int .u32 0, .int .u32 0, .int .u32 0, .int .i32 0, .int .i32 0, v0] 144) :: Qh p1 (.cells #[.int .i32 0, .int .u32 0, .int .u32 0, .int .u32 0, .int .i32 0, .int .i32 0, v1] 144) :: _) := S
 replace h0 := h0.le hM1
 replace h1 := h1.le hM1
 have hset := h0
 obtain ⟨sb0, sm0, sq0, se0, shb0, shm0, shn0, shq0⟩ := hset
 have shq0l : sq0.length ≤ c0.length := Qn shn0 fun z hz => (shq0 z).1 hz
 have hset := h1
 obtain ⟨sb1, sm1, sq1, se1, shb1, shm1, shn1, shq1⟩ := hset
 have shq1l : sq1.length ≤ c1.length := Qn shn1 fun z hz => (shq1 z).1 hz
 refine QF (Qx E Y fun _ B => QZ (Qq B Y fun _ D => QS D (Jo D Y Tryz.underlying114 (by intro z hz; cases hz)) fun _ F => Qx F Y fun _ G => QZ (Qq G Y fun _ I => QS I (Qb I Y Y) fun _ J => Qa J Y (Qs _) ?_)))
 clear E a B D F G I J; intro a E
 replace S : St w M1 (LK p0 144 0 v0 :: _) := S
 refine QB (QI (p := [LK p0 144 0 v0]) E S Y Y Y (QX Tryz.rwRLib (T := 144) (n := 0) (by decide) (by decide)) lerf ?_)
 clear E a S; rintro a _ w a3 _ a1 ⟨rfl, rfl⟩ S E
 replace S : St w a3 (Qh p0 (.cells #[.int .i32 0, .int .u32 0, .int .u32 0, .int .u32 0, .int .i32 1, .int .i32 0, v0] 144) :: Qh p1 (.cells #[.int .i32 0, .int .u32 0, .int .u32 0, .int .u32 0, .int .i32 0, .int .i32 0, v1] 144) :: H) := S
 replace h0 := h0.le a1
 replace h1 := h1.le a1
 refine QZ (Qq E Y fun _ B => QS B (Qb B Y Y) fun _ D => Qa D Y (Qs _) ?_)
 clear E a B D; intro a E
 refine Vg E Y Y ?_
 clear E a; intro a E
 replace E : Env a 32 [⟨.fn (.func 186) #[], #[.pointer (some ⟨p0, 0, none⟩)]⟩] _ := E
 refine QZ (Qq E Y fun _ B => QS B (Qb B Y Y) fun _ D => Qa D Y (Qs _) ?_)
 clear E a B D; intro a E
 replace S := S.front1
 replace S : St w a3 (LK p1 144 0 v1 :: _) := S
 refine QB (QI (p := [LK p1 144 0 v1]) E S Y Y Y (QX Tryz.rwRLib (T := 144) (n := 0) (by decide) (by decide)) lerf ?_)
 clear E a S; rintro a _ w a4 _ a2 ⟨rfl, rfl⟩ S E
 replace S : St w a4 (Qh p1 (.cells #[.int .i32 0, .int .u32 0, .int .u32 0, .int .u32 0, .int .i32 1, .int .i32 0, v1] 144) :: Qh p0 (.cells #[.int .i32 0, .int .u32 0, .int .u32 0, .int .u32 0, .int .i32 1, .int .i32 0, v0] 144) :: H) := S
 replace h0 := h0.le a2
 replace h1 := h1.le a2
 refine QZ (Qq E Y fun _ B => QS B (Qb B Y Y) fun _ D => Qa D Y (Qs _) ?_)
 clear E a B D; intro a E
 refine Vg E Y Y ?_
 clear E a; intro a E
 replace E : Env a 32 [⟨.fn (.func 186) #[], #[.pointer (some ⟨p1, 0, none⟩)]⟩, ⟨.fn (.func 186) #[], #[.pointer (some ⟨p0, 0, none⟩)]⟩] _ := E
 refine ZB ?_
 replace S := S.mono_heap (w' := World.drew _) rfl
 refine QN (C := fun x w => agree a4 w ∧ (x = 3 → w.heap[p0]? = some (.cells #[.int .i32 0, .int .u32 0, .int .u32 0, .int .u32 0, .int .i32 1, .int .i32 0, v0] 144)) ∧ (x = 7 → w.heap[p1]? = some (.cells #[.int .i32 0, .int .u32 0, .int .u32 0, .int .u32 0, .int .i32 1, .int .i32 0, v1] 144))) (bf := (fun i => bif Nat.beq i 9 then [3, 7] else [])) [0, 1, 2, 3, 4, 5, 6, 7, 8, 10] [0, 1, 2, 3, 4, 5, 6, 7, 8, 9, 10] Tryz.mixed (by kernel_rfl) (fun x hq => ⟨S.imm, fun _ => (S.mem (.tail _ (.head _))), fun _ => (S.mem (.head _))⟩) ?_
 refine Qo E Y (fun w hC => (Qi E Y)) fun _ B => Qo B Y (fun w hC => (Qb B Y Y)) fun _ D => Qo D Y (fun w hC => (Ql D Y (QW _))) fun _ F => Qo F Y (fun w hC => (Jz F Y (Tryz.isAgg116 _) (QC (hC.2.1 Y) Y))) fun _ G => Qo G Y (fun w hC => (Qi G Y)) fun _ I => Qo I Y (fun w hC => (Qb I Y Y)) fun _ J => Qo J Y (fun w hC => (Ql J Y (QW _))) fun _ K => Qo K Y (fun w hC => (Jz K Y (Tryz.isAgg116 _) (QC (hC.2.2 Y) Y))) fun _ L => Qo L Y (fun w hC => (QV L Y Tryz.underlying116)) ?_
 clear E a B D F G I J K L; intro a E
 refine Zd Y Y Y (Jm E S Y Y Y (Ym h0 h1 (by first | assumption | omega) (by first | assumption | omega)) lerf ?_)
 clear E a S; rintro a _ w a0 a5 rfl S E
 refine ⟨fun x hq hb => ⟨(Qg a5 S.imm), (fun e => by subst e; exact absurd hb (by decide)), (fun e => by subst e; exact absurd hb (by decide))⟩, ?_⟩
 refine Qo E Y (fun w hC => (Qy E Y)) ?_
 clear E a; intro a E
 refine Jv (Ju ?_)
 refine JG (Yr ?_)
 replace S := S.front1
 refine jz E Tryz.results173 Y (fun hres => ?_)
 clear E
 replace S := S.front1
 replace S : St w a0 (LK p1 144 (0 + 1) v1 :: _) := S
 refine YY Tryz.rwRLib (n := 0) (by decide) (by decide) S (fun w S => ?_)
 replace S : St w a0 (Qh p1 (.cells #[.int .i32 0, .int .u32 0, .int .u32 0, .int .u32 0, .int .i32 0, .int .i32 0, v1] 144) :: Qh p0 (.cells #[.int .i32 0, .int .u32 0, .int .u32 0, .int .u32 0, .int .i32 1, .int .i32 0, v0] 144) :: H) := S
 replace S := S.front1
 replace S : St w a0 (LK p0 144 (0 + 1) v0 :: _) := S
 refine YY Tryz.rwRLib (n := 0) (by decide) (by decide) S (fun w S => ?_)
 replace S : St w a0 (Qh p0 (.cells #[.int .i32 0, .int .u32 0, .int .u32 0, .int .u32 0, .int .i32 0, .int .i32 0, v0] 144) :: Qh p1 (.cells #[.int .i32 0, .int .u32 0, .int .u32 0, .int .u32 0, .int .i32 0, .int .i32 0, v1] 144) :: H) := S
 replace S := S.front1.front1
 exact GF (hres _) ⟨_, Y, a0, _, (a1.trans (a2.trans a5)), ⟨Y, Y⟩, S⟩
theorem VN {M : Hp} {p0 : Nat} {v0 : Value} {c0 : List Int} (h0 : JH 145 M v0 c0) (b0 : c0.length ≤ 1000000000)  :
  Sp Tryz.prog (.func (.func 173) #[] #[]) M [.pointer (some ⟨p0, 0, none⟩), .iface 114 (.pointer (some ⟨p0, 0, none⟩))] [Qh p0 (.cells #[.int .i32 0, .int .u32 0, .int .u32 0, .int .u32 0, .int .i32 0, .int .i32 0, v0] 144)] (fun r M' C' => C' = [Qh p0 (.cells #[.int .i32 0, .int .u32 0, .int .u32 0, .int .u32 0, .int .i32 0, .int .i32 0, v0] 144)] ∧ (r = .bool ((decide (Jd c0 < Jd c0)) && QT c0 c0))) := by
 refine Qu Tryz.func173 Y Tryz.ntmps173 Y Tryz.call173 ?_
 intro a w M1 H hM1 S E
 replace S : St w M1 (Qh p0 (.cells #[.int .i32 0, .int .u32 0, .int .u32 0, .int .u32 0, .int .i32 0, .int .i32 0, v0] 144) :: _) := S
 replace h0 := h0.le hM1
 have hset := h0
 obtain ⟨sb0, sm0, sq0, se0, shb0, shm0, shn0, shq0⟩ := hset
 have shq0l : sq0.length ≤ c0.length := Qn shn0 fun z hz => (shq0 z).1 hz
 refine QF (Qx E Y fun _ B => QZ (Qq B Y fun _ D => QS D (Jo D Y Tryz.underlying114 (by intro z hz; cases hz)) fun _ F => Qx F Y fun _ G => QZ (Qq G Y fun _ I => QS I (Qb I Y Y) fun _ J => Qa J Y (Qs _) ?_)))
 clear E a B D F G I J; intro a E
 replace S : St w M1 (LK p0 144 0 v0 :: _) := S
 refine QB (QI (p := [LK p0 144 0 v0]) E S Y Y Y (QX Tryz.rwRLib (T := 144) (n := 0) (by decide) (by decide)) lerf ?_)
 clear E a S; rintro a _ w a1 _ a2 ⟨rfl, rfl⟩ S E
 replace S : St w a1 (Qh p0 (.cells #[.int .i32 0, .int .u32 0, .int .u32 0, .int .u32 0, .int .i32 1, .int .i32 0, v0] 144) :: H) := S
 replace h0 := h0.le a2
 refine QZ (Qq E Y fun _ B => QS B (Qb B Y Y) fun _ D => Qa D Y (Qs _) ?_)
 clear E a B D; intro a E
 refine Vg E Y Y ?_
 clear E a; intro a E
 replace E : Env a 32 [⟨.fn (.func 186) #[], #[.pointer (some ⟨p0, 0, none⟩)]⟩] _ := E
 refine QZ (Qq E Y fun _ B => QS B (Qb B Y Y) fun _ D => Qa D Y (Qs _) ?_)
 clear E a B D; intro a E
 replace S : St w a1 (LK p0 144 1 v0 :: _) := S
 refine QB (QI (p := [LK p0 144 1 v0]) E S Y Y Y (QX Tryz.rwRLib (T := 144) (n := 1) (by decide) (by decide)) lerf ?_)
 clear E a S; rintro a _ w a3 _ a4 ⟨rfl, rfl⟩ S E
 replace S : St w a3 (Qh p0 (.cells #[.int .i32 0, .int .u32 0, .int .u32 0, .int .u32 0, .int .i32 2, .int .i32 0, v0] 144) :: H) := S
 replace h0 := h0.le a4
 refine QZ (Qq E Y fun _ B => QS B (Qb B Y Y) fun _ D => Qa D Y (Qs _) ?_)
 clear E a B D; intro a E
 refine Vg E Y Y ?_
 clear E a; intro a E
 replace E : Env a 32 [⟨.fn (.func 186) #[], #[.pointer (some ⟨p0, 0, none⟩)]⟩, ⟨.fn (.func 186) #[], #[.pointer (some ⟨p0, 0, none⟩)]⟩] _ := E
 refine ZB ?_
 replace S := S.mono_heap (w' := World.drew _) rfl
 refine QN (C := fun x w => agree a3 w ∧ (x = 3 → w.heap[p0]? = some (.cells #[.int .i32 0, .int .u32 0, .int .u32 0, .int .u32 0, .int .i32 2, .int .i32 0, v0] 144)) ∧ (x = 7 → w.heap[p0]? = some (.cells #[.int .i32 0, .int .u32 0, .int .u32 0, .int .u32 0, .int .i32 2, .int .i32 0, v0] 144))) (bf := (fun i => bif Nat.beq i 9 then [3, 7] else [])) [0, 1, 2, 3, 4, 5, 6, 7, 8, 10] [0, 1, 2, 3, 4, 5, 6, 7, 8, 9, 10] Tryz.mixed (by kernel_rfl) (fun x hq => ⟨S.imm, fun _ => (S.mem (.head _)), fun _ => (S.mem (.head _))⟩) ?_
 refine Qo E Y (fun w hC => (Qi E Y)) fun _ B => Qo B Y (fun w hC => (Qb B Y Y)) fun _ D => Qo D Y (fun w hC => (Ql D Y (QW _))) fun _ F => Qo F Y (fun w hC => (Jz F Y (Tryz.isAgg116 _) (QC (hC.2.1 Y) Y))) fun _ G => Qo G Y (fun w hC => (Qi G Y)) fun _ I => Qo I Y (fun w hC => (Qb I Y Y)) fun _ J => Qo J Y (fun w hC => (Ql J Y (QW _))) fun _ K => Qo K Y (fun w hC => (Jz K Y (Tryz.isAgg116 _) (QC (hC.2.2 Y) Y))) fun _ L => Qo L Y (fun w hC => (QV L Y Tryz.underlying116)) ?_
 clear E a B D F G I J K L; intro a E
 refine Zd Y Y Y (Jm E S Y Y Y (Ym h0 h0 (by first | assumption | omega) (by first | assumption | omega)) lerf ?_)
 clear E a S; rintro a _ w a0 a5 rfl S E
 refine ⟨fun x hq hb => ⟨(Qg a5 S.imm), (fun e => by subst e; exact absurd hb (by decide)), (fun e => by subst e; exact absurd hb (by decide))⟩, ?_⟩
 refine Qo E Y (fun w hC => (Qy E Y)) ?_
 clear E a; intro a E
 refine Jv (Ju ?_)
 refine JG (Yr ?_)
 refine jz E Tryz.results173 Y (fun hres => ?_)
 clear E
 replace S : St w a0 (LK p0 144 (1 + 1) v0 :: _) := S
 refine YY Tryz.rwRLib (n := 1) (by decide) (by decide) S (fun w S => ?_)
 replace S : St w a0 (Qh p0 (.cells #[.int .i32 0, .int .u32 0, .int .u32 0, .int .u32 0, .int .i32 1, .int .i32 0, v0] 144) :: H) := S
 replace S : St w a0 (LK p0 144 (0 + 1) v0 :: _) := S
 refine YY Tryz.rwRLib (n := 0) (by decide) (by decide) S (fun w S => ?_)
 replace S : St w a0 (Qh p0 (.cells #[.int .i32 0, .int .u32 0, .int .u32 0, .int .u32 0, .int .i32 0, .int .i32 0, v0] 144) :: H) := S
 exact GF (hres _) ⟨_, Y, a0, _, (a2.trans (a4.trans a5)), ⟨Y, Y⟩, S⟩
theorem Ww {M : Hp} {x0 : Bool} {v : Value} {t : List RG} {i : Nat} {x : RG} {j : Nat} {y : RG} (hx : t[i]? = some x) (hy : t[j]? = some y) (hb : x.2.2.length ≤ 1000000000) (hb2 : y.2.2.length ≤ 1000000000) :
  QD Tryz.prog (Zx KS x0 x) "IsProperSubset" M [Zx KS x0 y] [QK KS x0 v t] (fun r _ C' => ∃ D, C' = QK KS x0 v t :: D ∧ (r = (.bool ((decide (Jd x.2.2 < Jd y.2.2)) && QT x.2.2 y.2.2)) ∧ D = [])) := by
 refine ZX hx hy (fun M' hM hr hs => ?_) (fun e M' hM hr => ?_)
 ·cases x0
  ·exact ZM (F := [Zc KS false x, Zc KS false y]) (QD.of_pu (fun w => Yy _ w) Tryz.call196 (Ym hr hs hb hb2)) fun r M2 C h => h
  ·exact (QD.of_sp (fun w => Zp _ w) Tryz.call173 (VV hr hs hb hb2)).mono fun r M2 C ⟨h1, h2⟩ => ⟨[], h1, h2, Y⟩
 ·subst e
  cases x0
  ·exact ZM (F := [Zc KS false y]) (QD.of_pu (fun w => Yy _ w) Tryz.call196 (Ym hr hr hb hb)) fun r M2 C h => h
  ·exact (QD.of_sp (fun w => Zp _ w) Tryz.call173 (VN hr hb)).mono fun r M2 C ⟨h1, h2⟩ => ⟨[], h1, h2, Y⟩
theorem Ue {M : Hp} {v0 : Value} {c0 : List Int} (h0 : JH 145 M v0 c0) {v1 : Value} {c1 : List Int} (h1 : JH 145 M v1 c1) (b0 : c0.length ≤ 1000000000) (b1 : c1.length ≤ 1000000000)  :
  Pu Tryz.prog (.func (.func 211) #[] #[]) M [v0, .iface 116 v1] (fun r M' => r = .bool (QT c1 c0)) := by
 refine Jt Tryz.func211 Y Tryz.ntmps211 Y Tryz.call211 ?_
 intro a w M1 H hM1 S E
 replace h0 := h0.le hM1
 replace h1 := h1.le hM1
 have hcl0 := JY c0
 have hcl1 := JY c1
 refine QF (Qx E Y fun _ B => QZ (JR 2 B Y fun _ C => QS C (QV C Y Tryz.underlying116) ?_))
 clear E a B C; intro a E
 refine QB (qT E S Y Y Y (YG _ _) Tryz.call197 (YX h1 h0 (by first | assumption | omega) (by first | assumption | omega)) lerf ?_)
 clear E a S; rintro a _ w a0 a1 rfl S E
 refine Qx E Y ?_
 clear E a; intro a E
 refine JQ ?_
 exact Qk E Tryz.results211 Y ⟨_, Y, a0, a1, Y, S⟩
theorem ju {M : Hp} {p0 : Nat} {v0 : Value} {c0 : List Int} (h0 : JH 145 M v0 c0) {p1 : Nat} {v1 : Value} {c1 : List Int} (h1 : JH 145 M v1 c1) (b0 : c0.length ≤ 1000000000) (b1 : c1.length ≤ 1000000000)  :
  Sp Tryz.prog (.func (.func 176) #[] #[]) M [.pointer (some ⟨p0, 0, none⟩), .iface 114 (.pointer (some ⟨p1, 0, none⟩))] [Qh p0 (.cells #[.int .i32 0, .int .u32 0, .int .u32 0, .int .u32 0, .int .i32 0, .int .i32 0, v0] 144), Qh p1 (.cells #[.int .i32 0, .int .u32 0, .int .u32 0, .int .u32 0, .int .i32 0, .int .i32 0, v1] 144)] (fun r M' C' => C' = [Qh p0 (.cells #[.int .i32 0, .int .u32 0, .int .u32 0, .int .u32 0, .int .i32 0, .int .i32 0, v0] 144), Qh p1 (.cells #[.int .i32 0, .int .u32 0, .int .u32 0, .int .u32 0, .int .i32 0, .int .i32 0, v1] 144)] ∧ (r = .bool (QT c1 c0))) := by
 refine Qu Tryz.func176 Y Tryz.ntmps176 Y Tryz.call176 ?_
 intro a w M1 H hM1 S E
 replace S : St w M1 (Qh p0 (.cells #[.int .i32 0, .int .u32 0, .int .u32 0, .int .u32 0, .int .i32 0, .int .i32 0, v0] 144) :: Qh p1 (.cells #[.int .i32 0, .int .u32 0, .int .u32 0, .int .u32 0, .int .i32 0, .int .i32 0, v1] 144) :: _) := S
 replace h0 := h0.le hM1
 replace h1 := h1.le hM1
 have hset := h0
 obtain ⟨sb0, sm0, sq0, se0, shb0, shm0, shn0, shq0⟩ := hset
 have shq0l : sq0.length ≤ c0.length := Qn shn0 fun z hz => (shq0 z).1 hz
 have hset := h1
 obtain ⟨sb1, sm1, sq1, se1, shb1, shm1, shn1, shq1⟩ := hset
 have shq1l : sq1.length ≤ c1.length := Qn shn1 fun z hz => (shq1 z).1 hz
 refine QF (Qx E Y fun _ B => QZ (JR 2 B Y fun _ C => QS C (QV C Y Tryz.underlying114) ?_))
 clear E a B C; intro a E
 replace S := S.front1
 refine QB (ja (p := [Qh p1 (.cells #[.int .i32 0, .int .u32 0, .int .u32 0, .int .u32 0, .int .i32 0, .int .i32 0, v1] 144), Qh p0 (.cells #[.int .i32 0, .int .u32 0, .int .u32 0, .int .u32 0, .int .i32 0, .int .i32 0, v0] 144)]) E S Y Y Y (Ya _ _) Tryz.call175 (qY h1 h0 (by first | assumption | omega) (by first | assumption | omega)) lerf ?_)
 clear E a S; rintro a _ w a0 _ a1 ⟨rfl, rfl⟩ S E
 replace S : St w a0 (Qh p1 (.cells #[.int .i32 0, .int .u32 0, .int .u32 0, .int .u32 0, .int .i32 0, .int .i32 0, v1] 144) :: Qh p0 (.cells #[.int .i32 0, .int .u32 0, .int .u32 0, .int .u32 0, .int .i32 0, .int .i32 0, v0] 144) :: H) := S
 refine Qx E Y ?_
 clear E a; intro a E
 refine JQ ?_
 replace S := S.front1
 exact Qk E Tryz.results176 Y ⟨_, Y, a0, _, a1, ⟨Y, Y⟩, S⟩
theorem zD {M : Hp} {p0 : Nat} {v0 : Value} {c0 : List Int} (h0 : JH 145 M v0 c0) (b0 : c0.length ≤ 1000000000)  :
  Sp Tryz.prog (.func (.func 176) #[] #[]) M [.pointer (some ⟨p0, 0, none⟩), .iface 114 (.pointer (some ⟨p0, 0, none⟩))] [Qh p0 (.cells #[.int .i32 0, .int .u32 0, .int .u32 0, .int .u32 0, .int .i32 0, .int .i32 0, v0] 144)] (fun r M' C' => C' = [Qh p0 (.cells #[.int .i32 0, .int .u32 0, .int .u32 0, .int .u32 0, .int .i32 0, .int .i32 0, v0] 144)] ∧ (r = .bool (QT c0 c0))) := by
 refine Qu Tryz.func176 Y Tryz.ntmps176 Y Tryz.call176 ?_
 intro a w M1 H hM1 S E
 replace S : St w M1 (Qh p0 (.cells #[.int .i32 0, .int .u32 0, .int .u32 0, .int .u32 0, .int .i32 0, .int .i32 0, v0] 144) :: _) := S
 replace h0 := h0.le hM1
 have hset := h0
 obtain ⟨sb0, sm0, sq0, se0, shb0, shm0, shn0, shq0⟩ := hset
 have shq0l : sq0.length ≤ c0.length := Qn shn0 fun z hz => (shq0 z).1 hz
 refine QF (Qx E Y fun _ B => QZ (JR 2 B Y fun _ C => QS C (QV C Y Tryz.underlying114) ?_))
 clear E a B C; intro a E
 refine QB (ja (p := [Qh p0 (.cells #[.int .i32 0, .int .u32 0, .int .u32 0, .int .u32 0, .int .i32 0, .int .i32 0, v0] 144)]) E S Y Y Y (Ya _ _) Tryz.call175 (GS h0 (by first | assumption | omega)) lerf ?_)
 clear E a S; rintro a _ w a0 _ a1 ⟨rfl, rfl⟩ S E
 replace S : St w a0 (Qh p0 (.cells #[.int .i32 0, .int .u32 0, .int .u32 0, .int .u32 0, .int .i32 0, .int .i32 0, v0] 144) :: H) := S
 refine Qx E Y ?_
 clear E a; intro a E
 refine JQ ?_
 exact Qk E Tryz.results176 Y ⟨_, Y, a0, _, a1, ⟨Y, Y⟩, S⟩
theorem qw {M : Hp} {x0 : Bool} {v : Value} {t : List RG} {i : Nat} {x : RG} {j : Nat} {y : RG} (hx : t[i]? = some x) (hy : t[j]? = some y) (hb : x.2.2.length ≤ 1000000000) (hb2 : y.2.2.length ≤ 1000000000) :
  QD Tryz.prog (Zx KS x0 x) "IsSuperset" M [Zx KS x0 y] [QK KS x0 v t] (fun r _ C' => ∃ D, C' = QK KS x0 v t :: D ∧ (r = (.bool (QT y.2.2 x.2.2)) ∧ D = [])) := by
 refine ZX hx hy (fun M' hM hr hs => ?_) (fun e M' hM hr => ?_)
 ·cases x0
  ·exact ZM (F := [Zc KS false x, Zc KS false y]) (QD.of_pu (fun w => Vq _ w) Tryz.call211 (Ue hr hs hb hb2)) fun r M2 C h => h
  ·exact (QD.of_sp (fun w => Vs _ w) Tryz.call176 (ju hr hs hb hb2)).mono fun r M2 C ⟨h1, h2⟩ => ⟨[], h1, h2, Y⟩
 ·subst e
  cases x0
  ·exact ZM (F := [Zc KS false y]) (QD.of_pu (fun w => Vq _ w) Tryz.call211 (Ue hr hr hb hb)) fun r M2 C h => h
  ·exact (QD.of_sp (fun w => Vs _ w) Tryz.call176 (zD hr hb)).mono fun r M2 C ⟨h1, h2⟩ => ⟨[], h1, h2, Y⟩
theorem VE {M : Hp} {v0 : Value} {c0 : List Int} (h0 : JH 145 M v0 c0) {v1 : Value} {c1 : List Int} (h1 : JH 145 M v1 c1) (b0 : c0.length ≤ 1000000000) (b1 : c1.length ≤ 1000000000)  :
  Pu Tryz.prog (.func (.func 210) #[] #[]) M [v0, .iface 116 v1] (fun r M' => r = .bool ((decide (Jd c1 < Jd c0)) && QT c1 c0)) := by
 refine Jt Tryz.func210 Y Tryz.ntmps210 Y Tryz.call210 ?_
 intro a w M1 H hM1 S E
 replace h0 := h0.le hM1
 replace h1 := h1.le hM1
 have hcl0 := JY c0
 have hcl1 := JY c1
 refine QF (Qx E Y fun _ B => QZ (Qq B Y ?_))
 clear E a B; intro a E
 refine QB (Jm E S Y Y Y (QR h0 (by first | assumption | omega)) lerf ?_)
 clear E a S; rintro a _ w a6 a1 rfl S E
 replace h0 := h0.le a1
 replace h1 := h1.le a1
 refine Qq E Y ?_
 clear E a; intro a E
 refine QB (qT E S Y Y Y (JO _ _) Tryz.call205 (QR h1 (by first | assumption | omega)) lerf ?_)
 clear E a S; rintro a _ w a3 a2 rfl S E
 replace h0 := h0.le a2
 replace h1 := h1.le a2
 refine Ws E Y Y fun _ B => Qq B Y ?_
 clear E a B; intro a E
 refine QO (decide (((Jd c1 : Nat) : Int) < ((Jd c0 : Nat) : Int))) (fun a0 => ?_) (fun a0 => ?_)
 ·replace E := E.val (t := 9) Y a0
  replace E := E.val (t := 10) Y a0
  replace a0 := of_decide_eq_true a0
  refine Qc E Y Y (Qq E Y fun _ B => Qc B Y Y (Qq B Y ?_))
  clear E a B; intro a E
  refine Qc E Y Y ?_
  refine QB (Jm E S Y Y Y (Ue h0 h1 (by first | assumption | omega) (by first | assumption | omega)) lerf ?_)
  clear E a S; rintro a _ w a4 a5 rfl S E
  refine JI E Y Y fun _ B => Qx B Y ?_
  clear E a B; intro a E
  refine JQ ?_
  exact Qk E Tryz.results210 Y ⟨_, Y, a4, (a1.trans (a2.trans a5)), (cgB (by (first | rfl | (simp_all; done) | (rw [decide_eq_false (by omega)]; rfl) | (rw [decide_eq_true (by omega), Bool.true_and])))), S⟩
 ·replace E := E.val (t := 9) Y a0
  replace E := E.val (t := 10) Y a0
  replace a0 := of_decide_eq_false a0
  refine Qd E Y Y Y Y fun _ B => Qd B Y Y Y Y fun _ C => Qd C Y Y Y Y fun _ D => QU D Y Y fun _ F => Qx F Y ?_
  clear E a B C D F; intro a E
  refine JQ ?_
  exact Qk E Tryz.results210 Y ⟨_, Y, a3, (a1.trans a2), (cgB (by (first | rfl | (simp_all; done) | (rw [decide_eq_false (by omega)]; rfl) | (rw [decide_eq_true (by omega), Bool.true_and])))), S⟩
theorem WC {M : Hp} {p0 : Nat} {v0 : Value} {c0 : List Int} (h0 : JH 145 M v0 c0) {p1 : Nat} {v1 : Value} {c1 : List Int} (h1 : JH 145 M v1 c1) (b0 : c0.length ≤ 1000000000) (b1 : c1.length ≤ 1000000000)  :
  Sp Tryz.prog (.func (.func 174) #[] #[]) M [.pointer (some ⟨p0, 0, none⟩), .iface 114 (.pointer (some ⟨p1, 0, none⟩))] [Qh p0 (.cells #[.int .i32 0, .int .u32 0, .int .u32 0, .int .u32 0, .int .i32 0, .int .i32 0, v0] 144), Qh p1 (.cells #[.int .i32 0, .int .u32 0, .int .u32 0, .int .u32 0, .int .i32 0, .int .i32 0, v1] 144)] (fun r M' C' => C' = [Qh p0 (.cells #[.int .i32 0, .int .u32 0, .int .u32 0, .int .u32 0, .int .i32 0, .int .i32 0, v0] 144), Qh p1 (.cells #[.int .i32 0, .int .u32 0, .int .u32 0, .int .u32 0, .int .i32 0, .int .i32 0, v1] 144)] ∧ (r = .bool ((decide (Jd c1 < Jd c0)) && QT c1 c0))) := by
 refine Qu Tryz.func174 Y Tryz.ntmps174 Y Tryz.call174 ?_
 intro a w M1 H hM1 S E
 replace S : St w M1 (Qh p0 (.cells #[.int .i32 0, .int .u32 0, .int .u32 0, .int .u32 0, .int .i32 0, .int .i32 0, v0] 144) :: Qh p1 (.cells #[.int .i32 0, .int .u32 0, .int .u32 0, .int .u32 0, .int .i32 0, .int .i32 0, v1] 144) :: _) := S
 replace h0 := h0.le hM1
 replace h1 := h1.le hM1
 have hset := h0
 obtain ⟨sb0, sm0, sq0, se0, shb0, shm0, shn0, shq0⟩ := hset
 have shq0l : sq0.length ≤ c0.length := Qn shn0 fun z hz => (shq0 z).1 hz
 have hset := h1
 obtain ⟨sb1, sm1, sq1, se1, shb1, shm1, shn1, shq1⟩ := hset
 have shq1l : sq1.length ≤ c1.length := Qn shn1 fun z hz => (shq1 z).1 hz
 refine QF (Qx E Y fun _ B => QZ (JR 2 B Y fun _ C => QS C (QV C Y Tryz.underlying114) ?_))
 clear E a B C; intro a E
 replace S := S.front1
 refine QB (ja (p := [Qh p1 (.cells #[.int .i32 0, .int .u32 0, .int .u32 0, .int .u32 0, .int .i32 0, .int .i32 0, v1] 144), Qh p0 (.cells #[.int .i32 0, .int .u32 0, .int .u32 0, .int .u32 0, .int .i32 0, .int .i32 0, v0] 144)]) E S Y Y Y (Zp _ _) Tryz.call173 (VV h1 h0 (by first | assumption | omega) (by first | assumption | omega)) lerf ?_)
 clear E a S; rintro a _ w a0 _ a1 ⟨rfl, rfl⟩ S E
 replace S : St w a0 (Qh p1 (.cells #[.int .i32 0, .int .u32 0, .int .u32 0, .int .u32 0, .int .i32 0, .int .i32 0, v1] 144) :: Qh p0 (.cells #[.int .i32 0, .int .u32 0, .int .u32 0, .int .u32 0, .int .i32 0, .int .i32 0, v0] 144) :: H) := S
 refine Qx E Y ?_
 clear E a; intro a E
 refine JQ ?_
 replace S := S.front1
 exact Qk E Tryz.results174 Y ⟨_, Y, a0, _, a1, ⟨Y, Y⟩, S⟩
theorem Wo {M : Hp} {p0 : Nat} {v0 : Value} {c0 : List Int} (h0 : JH 145 M v0 c0) (b0 : c0.length ≤ 1000000000)  :
  Sp Tryz.prog (.func (.func 174) #[] #[]) M [.pointer (some ⟨p0, 0, none⟩), .iface 114 (.pointer (some ⟨p0, 0, none⟩))] [Qh p0 (.cells #[.int .i32 0, .int .u32 0, .int .u32 0, .int .u32 0, .int .i32 0, .int .i32 0, v0] 144)] (fun r M' C' => C' = [Qh p0 (.cells #[.int .i32 0, .int .u32 0, .int .u32 0, .int .u32 0, .int .i32 0, .int .i32 0, v0] 144)] ∧ (r = .bool ((decide (Jd c0 < Jd c0)) && QT c0 c0))) := by
 refine Qu Tryz.func174 Y Tryz.ntmps174 Y Tryz.call174 ?_
 intro a w M1 H hM1 S E
 replace S : St w M1 (Qh p0 (.cells #[.int .i32 0, .int .u32 0, .int .u32 0, .int .u32 0, .int .i32 0, .int .i32 0, v0] 144) :: _) := S
 replace h0 := h0.le hM1
 have hset := h0
 obtain ⟨sb0, sm0, sq0, se0, shb0, shm0, shn0, shq0⟩ := hset
 have shq0l : sq0.length ≤ c0.length := Qn shn0 fun z hz => (shq0 z).1 hz
 refine QF (Qx E Y fun _ B => QZ (JR 2 B Y fun _ C => QS C (QV C Y Tryz.underlying114) ?_))
 clear E a B C; intro a E
 refine QB (ja (p := [Qh p0 (.cells #[.int .i32 0, .int .u32 0, .int .u32 0, .int .u32 0, .int .i32 0, .int .i32 0, v0] 144)]) E S Y Y Y (Zp _ _) Tryz.call173 (VN h0 (by first | assumption | omega)) lerf ?_)
 clear E a S; rintro a _ w a0 _ a1 ⟨rfl, rfl⟩ S E
 replace S : St w a0 (Qh p0 (.cells #[.int .i32 0, .int .u32 0, .int .u32 0, .int .u32 0, .int .i32 0, .int .i32 0, v0] 144) :: H) := S
 refine Qx E Y ?_
 clear E a; intro a E
 refine JQ ?_
 exact Qk E Tryz.results174 Y ⟨_, Y, a0, _, a1, ⟨Y, Y⟩, S⟩
theorem Uu {M : Hp} {x0 : Bool} {v : Value} {t : List RG} {i : Nat} {x : RG} {j : Nat} {y : RG} (hx : t[i]? = some x) (hy : t[j]? = some y) (hb : x.2.2.length ≤ 1000000000) (hb2 : y.2.2.length ≤ 1000000000) :
  QD Tryz.prog (Zx KS x0 x) "IsProperSuperset" M [Zx KS x0 y] [QK KS x0 v t] (fun r _ C' => ∃ D, C' = QK KS x0 v t :: D ∧ (r = (.bool ((decide (Jd y.2.2 < Jd x.2.2)) && QT y.2.2 x.2.2)) ∧ D = [])) := by
 refine ZX hx hy (fun M' hM hr hs => ?_) (fun e M' hM hr => ?_)
 ·cases x0
  ·exact ZM (F := [Zc KS false x, Zc KS false y]) (QD.of_pu (fun w => Yo _ w) Tryz.call210 (VE hr hs hb hb2)) fun r M2 C h => h
  ·exact (QD.of_sp (fun w => Yp _ w) Tryz.call174 (WC hr hs hb hb2)).mono fun r M2 C ⟨h1, h2⟩ => ⟨[], h1, h2, Y⟩
 ·subst e
  cases x0
  ·exact ZM (F := [Zc KS false y]) (QD.of_pu (fun w => Yo _ w) Tryz.call210 (VE hr hr hb hb)) fun r M2 C h => h
  ·exact (QD.of_sp (fun w => Yp _ w) Tryz.call174 (Wo hr hb)).mono fun r M2 C ⟨h1, h2⟩ => ⟨[], h1, h2, Y⟩
theorem ZH {M : Hp} {v0 : Value} {c0 : List Int} (h0 : JH 145 M v0 c0) {v1 : Value} {c1 : List Int} (h1 : JH 145 M v1 c1) (b0 : c0.length ≤ 1000000000) (b1 : c1.length ≤ 1000000000)  :
  Pu Tryz.prog (.func (.func 191) #[] #[]) M [v0, .iface 116 v1] (fun r M' => r = .bool (ZJ c0 c1)) := by
 refine Jt Tryz.func191 Y Tryz.ntmps191 Y Tryz.call191 ?_
 intro a w M1 H hM1 S E
 replace h0 := h0.le hM1
 replace h1 := h1.le hM1
 have hcl0 := JY c0
 have hcl1 := JY c1
 refine QF (Qx E Y fun _ B => QZ (Qq B Y fun _ C => QS C (Jo C Y Tryz.underlying116 (by intro z hz; cases hz)) fun _ D => Qx D Y fun _ F => VM (Qq F Y ?_)))
 clear E a B C D F; intro a E
 refine QB (Jm E S Y Y Y (QR h0 (by first | assumption | omega)) lerf ?_)
 clear E a S; rintro a _ w c4 a0 rfl S E
 replace h0 := h0.le a0
 replace h1 := h1.le a0
 refine Qq E Y ?_
 clear E a; intro a E
 refine QB (qT E S Y Y Y (JO _ _) Tryz.call205 (QR h1 (by first | assumption | omega)) lerf ?_)
 clear E a S; rintro a _ w a1 a2 rfl S E
 replace h0 := h0.le a2
 replace h1 := h1.le a2
 refine ZG E Y Y ?_
 clear E a; intro a E
 refine Jx ?_
 refine QJ E Y (fun b9 => ?_) (fun b9 => ?_)
 ·refine QF (Qq E Y ?_)
  clear E a; intro a E
  have hset := h0
  obtain ⟨sb0, sm0, sq0, se0, shb0, shm0, shn0, shq0⟩ := hset
  have shq0l : sq0.length ≤ c0.length := Qn shn0 fun z hz => (shq0 z).1 hz
  refine QS E (Qb E Y se0) fun _ B => zw B Y (QG B (congrArg some se0) Tryz.isAgg145 S.imm (Jn shb0)) Y ?_
  clear E a B; intro a E
  refine QB (Zz E S Y JJ shm0 Y ?_)
  clear E a S; rintro a w b4 es_5 ck_6 E a7 S
  replace S : St w a1 (Ys sm0 es_5 ck_6 b4 (Sl.encS ([] : List Int)) :: _) := S
  refine VJ ?_
  replace S := S.reIt (p' := (Sl.encS [])) (congrArg Sl.encS (show ([] : List Int) = [] by (first | rfl | (simp [Qe]; done) | (simp [Qe, List.filter_append, *]; done))))
  refine Jb (γ := List Int) (fun (p : List Int) a w => ∃ (a8 : Hp), Hp.le a1 a8 ∧ St w a8 (Ys sm0 es_5 ck_6 b4 (Sl.encS p) :: H) ∧ Env a 37 [] [(5, v1), (18, .pointer (some ⟨b4, 0, none⟩))] ∧ (p.Nodup) ∧ (∀ z ∈ p, z ∈ sq0) ∧ (p.length ≤ sq0.length) ∧ (∀ z ∈ p, z ∉ c1)) (fun p => sq0.length - p.length) [] ⟨a1, lerf, S, E.keep ⟨Y, Y, trivial⟩, (by simp), (by simp), (by simp), (by simp)⟩ ?_
  try clear E
  try clear S
  try clear a
  try clear w
  rintro p a w ⟨a8, a3, S, E, c5, c6, c7, c8⟩
  replace h0 := h0.le a3
  replace h1 := h1.le a3
  replace a7 := a7.le a3
  refine QF ?_
  refine QB (ZK E S Y a7 Y (by assumption) (by assumption) ?_ ?_)
  ·clear E a S; rintro a E hpm_9 S
   refine Qj E Y Y ?_
   clear E a; intro a E
   refine ZB ?_
   refine QL E Y Y ?_
   refine Um (Qx E Y ?_)
   clear E a; intro a E
   refine JQ ?_
   exact Qk E Tryz.results191 Y ⟨_, Y, a8, (a0.trans (a2.trans a3)), (cgB (by (first | exact (GO (by first | assumption | exact List.Perm.symm (by assumption)) shq0 (by assumption)).symm | exact ((Ve c0 c1).trans (GO (by first | assumption | exact List.Perm.symm (by assumption)) shq1 (by assumption))).symm | exact (GN (k := _) (by assumption) shq0 (by simp_all)).symm | exact ((Ve c0 c1).trans (GN (k := _) (by assumption) shq1 (by simp_all))).symm))), S.drop⟩
  ·clear E a S w; rintro a w a4 E hk_11 hk_11n hk_11l S
   refine Qj E Y Y ?_
   clear E a; intro a E
   refine ZB ?_
   refine Jj E Y Y ?_
   refine Ja (JG (Jw (QF (Zy (k := a4) (v := .agg #[]) E (by have S1 := S; simp only [Sl.encS, List.map_append, List.map_cons, List.map_nil] at S1; exact S1) a7 Y fun _ B => Qj B Y Y fun _ C => Qx C Y fun _ D => QZ (JR 2 D Y ?_)))))
   clear E a B C D; intro a E
   refine QB (Jm E S Y Y Y (ZQ h1 (by first | assumption | omega)) lerf ?_)
   clear E a S; rintro a _ w b6 a9 rfl S E
   replace h0 := h0.le a9
   replace h1 := h1.le a9
   refine Jx ?_
   refine QJ E Y (fun c2 => ?_) (fun c2 => ?_)
   ·refine QF (Qx E Y ?_)
    clear E a; intro a E
    refine J_r (jd (qW ?_))
    exact Qk E Tryz.results191 Y ⟨_, Y, b6, (a0.trans (a2.trans (a3.trans a9))), (cgB (by (first | exact (GO (by first | assumption | exact List.Perm.symm (by assumption)) shq0 (by assumption)).symm | exact ((Ve c0 c1).trans (GO (by first | assumption | exact List.Perm.symm (by assumption)) shq1 (by assumption))).symm | exact (GN (k := _) (by assumption) shq0 (by simp_all)).symm | exact ((Ve c0 c1).trans (GN (k := _) (by assumption) shq1 (by simp_all))).symm))), S.drop⟩
   ·refine Ja (ZN (JG ?_))
    replace S := S.reIt (p' := (Sl.encS (p ++ [a4]))) (congrArg Sl.encS (show p ++ [a4] = (p ++ [a4]) by (first | rfl | (simp [Qe]; done) | (simp [Qe, List.filter_append, *]; done))))
    exact ⟨(p ++ [a4]), ⟨b6, (a3.trans a9), S, E.keep ⟨Y, Y, trivial⟩, (by exact Yn (by assumption) (by assumption)), (by exact Yt (by assumption) (by assumption)), (by simp; omega), (by exact vc (Q := fun z => z ∉ c1) (by assumption) (by first | assumption | (simp_all; done)))⟩, (by simp; omega)⟩
 ·refine QF (Qq E Y ?_)
  clear E a; intro a E
  have hset := h1
  obtain ⟨sb1, sm1, sq1, se1, shb1, shm1, shn1, shq1⟩ := hset
  have shq1l : sq1.length ≤ c1.length := Qn shn1 fun z hz => (shq1 z).1 hz
  refine QS E (Qb E Y se1) fun _ B => zw B Y (QG B (congrArg some se1) Tryz.isAgg145 S.imm (Jn shb1)) Y ?_
  clear E a B; intro a E
  refine QB (Zz E S Y JJ shm1 Y ?_)
  clear E a S; rintro a w b5 es_15 ck_16 E b2 S
  replace S : St w a1 (Ys sm1 es_15 ck_16 b5 (Sl.encS ([] : List Int)) :: _) := S
  refine VJ ?_
  replace S := S.reIt (p' := (Sl.encS [])) (congrArg Sl.encS (show ([] : List Int) = [] by (first | rfl | (simp [Qe]; done) | (simp [Qe, List.filter_append, *]; done))))
  refine Jb (γ := List Int) (fun (p : List Int) a w => ∃ (b3 : Hp), Hp.le a1 b3 ∧ St w b3 (Ys sm1 es_15 ck_16 b5 (Sl.encS p) :: H) ∧ Env a 37 [] [(0, v0), (29, .pointer (some ⟨b5, 0, none⟩))] ∧ (p.Nodup) ∧ (∀ z ∈ p, z ∈ sq1) ∧ (p.length ≤ sq1.length) ∧ (∀ z ∈ p, z ∉ c0)) (fun p => sq1.length - p.length) [] ⟨a1, lerf, S, E.keep ⟨Y, Y, trivial⟩, (by simp), (by simp), (by simp), (by simp)⟩ ?_
  try clear E
  try clear S
  try clear a
  try clear w
  rintro p a w ⟨b3, a5, S, E, c9, d0, d1, d2⟩
  replace h0 := h0.le a5
  replace b2 := b2.le a5
  refine QF ?_
  refine QB (ZK E S Y b2 Y (by assumption) (by assumption) ?_ ?_)
  ·clear E a S; rintro a E hpm_19 S
   refine Qj E Y Y ?_
   clear E a; intro a E
   refine ZB ?_
   refine QL E Y Y ?_
   refine Um (Qx E Y ?_)
   clear E a; intro a E
   refine JQ ?_
   exact Qk E Tryz.results191 Y ⟨_, Y, b3, (a0.trans (a2.trans a5)), (cgB (by (first | exact (GO (by first | assumption | exact List.Perm.symm (by assumption)) shq0 (by assumption)).symm | exact ((Ve c0 c1).trans (GO (by first | assumption | exact List.Perm.symm (by assumption)) shq1 (by assumption))).symm | exact (GN (k := _) (by assumption) shq0 (by simp_all)).symm | exact ((Ve c0 c1).trans (GN (k := _) (by assumption) shq1 (by simp_all))).symm))), S.drop⟩
  ·clear E a S w; rintro a w a6 E hk_21 hk_21n hk_21l S
   refine Qj E Y Y ?_
   clear E a; intro a E
   refine ZB ?_
   refine Jj E Y Y ?_
   refine Ja (JG (Jw (QF (Zy (k := a6) (v := .agg #[]) E (by have S1 := S; simp only [Sl.encS, List.map_append, List.map_cons, List.map_nil] at S1; exact S1) b2 Y fun _ B => Qj B Y Y fun _ C => Qx C Y fun _ D => QZ (JR 2 D Y ?_)))))
   clear E a B C D; intro a E
   refine QB (Jm E S Y Y Y (ZQ h0 (by first | assumption | omega)) lerf ?_)
   clear E a S; rintro a _ w b7 b8 rfl S E
   refine Jx ?_
   refine QJ E Y (fun c3 => ?_) (fun c3 => ?_)
   ·refine QF (Qx E Y ?_)
    clear E a; intro a E
    refine J_r (jd (qW ?_))
    exact Qk E Tryz.results191 Y ⟨_, Y, b7, (a0.trans (a2.trans (a5.trans b8))), (cgB (by (first | exact (GO (by first | assumption | exact List.Perm.symm (by assumption)) shq0 (by assumption)).symm | exact ((Ve c0 c1).trans (GO (by first | assumption | exact List.Perm.symm (by assumption)) shq1 (by assumption))).symm | exact (GN (k := _) (by assumption) shq0 (by simp_all)).symm | exact ((Ve c0 c1).trans (GN (k := _) (by assumption) shq1 (by simp_all))).symm))), S.drop⟩
   ·refine Ja (ZN (JG ?_))
    replace S := S.reIt (p' := (Sl.encS (p ++ [a6]))) (congrArg Sl.encS (show p ++ [a6] = (p ++ [a6]) by (first | rfl | (simp [Qe]; done) | (simp [Qe, List.filter_append, *]; done))))
    exact ⟨(p ++ [a6]), ⟨b7, (a5.trans b8), S, E.keep ⟨Y, Y, trivial⟩, (by exact Yn (by assumption) (by assumption)), (by exact Yt (by assumption) (by assumption)), (by simp; omega), (by exact vc (Q := fun z => z ∉ c0) (by assumption) (by first | assumption | (simp_all; done)))⟩, (by simp; omega)⟩
theorem UJ {M : Hp} {p0 : Nat} {v0 : Value} {c0 : List Int} (h0 : JH 145 M v0 c0) {p1 : Nat} {v1 : Value} {c1 : List Int} (h1 : JH 145 M v1 c1) (b0 : c0.length ≤ 1000000000) (b1 : c1.length ≤ 1000000000)  :
  Sp Tryz.prog (.func (.func 166) #[] #[]) M [.pointer (some ⟨p0, 0, none⟩), .iface 114 (.pointer (some ⟨p1, 0, none⟩))] [Qh p0 (.cells #[.int .i32 0, .int .u32 0, .int .u32 0, .int .u32 0, .int .i32 0, .int .i32 0, v0] 144), Qh p1 (.cells #[.int .i32 0, .int .u32 0, .int .u32 0, .int .u32 0, .int .i32 0, .int .i32 0, v1] 144)] (fun r M' C' => C' = [Qh p0 (.cells #[.int .i32 0, .int .u32 0, .int .u32 0, .int .u32 0, .int .i32 0, .int .i32 0, v0] 144), Qh p1 (.cells #[.int .i32 0, .int .u32 0, .int .u32 0, .int .u32 0, .int .i32 0, .int .i32 0, v1] 144)] ∧ (r = .bool (ZJ c0 c1))) := by
 refine Qu Tryz.func166 Y Tryz.ntmps166 Y Tryz.call166 ?_
 intro a w M1 H hM1 S E
 replace S : St w M1 (Qh p0 (.cells #[.int .i32 0, .int .u32 0, .int .u32 0, .int .u32 0, .int .i32 0, .int .i32 0, v0] 144) :: Qh p1 (.cells #[.int .i32 0, .int .u32 0, .int .u32 0, .int .u32 0, .int .i32 0, .int .i32 0, v1] 144) :: _) := S
 replace h0 := h0.le hM1
 replace h1 := h1.le hM1
 have hset := h0
 obtain ⟨sb0, sm0, sq0, se0, shb0, shm0, shn0, shq0⟩ := hset
 have shq0l : sq0.length ≤ c0.length := Qn shn0 fun z hz => (shq0 z).1 hz
 have hset := h1
 obtain ⟨sb1, sm1, sq1, se1, shb1, shm1, shn1, shq1⟩ := hset
 have shq1l : sq1.length ≤ c1.length := Qn shn1 fun z hz => (shq1 z).1 hz
 refine QF (Qx E Y fun _ B => QZ (Qq B Y fun _ D => QS D (Jo D Y Tryz.underlying114 (by intro z hz; cases hz)) fun _ F => Qx F Y fun _ G => QZ (Qq G Y fun _ I => QS I (Qb I Y Y) fun _ J => Qa J Y (Qs _) ?_)))
 clear E a B D F G I J; intro a E
 replace S : St w M1 (LK p0 144 0 v0 :: _) := S
 refine QB (QI (p := [LK p0 144 0 v0]) E S Y Y Y (QX Tryz.rwRLib (T := 144) (n := 0) (by decide) (by decide)) lerf ?_)
 clear E a S; rintro a _ w a2 _ a0 ⟨rfl, rfl⟩ S E
 replace S : St w a2 (Qh p0 (.cells #[.int .i32 0, .int .u32 0, .int .u32 0, .int .u32 0, .int .i32 1, .int .i32 0, v0] 144) :: Qh p1 (.cells #[.int .i32 0, .int .u32 0, .int .u32 0, .int .u32 0, .int .i32 0, .int .i32 0, v1] 144) :: H) := S
 replace h0 := h0.le a0
 replace h1 := h1.le a0
 refine QZ (Qq E Y fun _ B => QS B (Qb B Y Y) fun _ D => Qa D Y (Qs _) ?_)
 clear E a B D; intro a E
 replace S := S.front1
 replace S : St w a2 (LK p1 144 0 v1 :: _) := S
 refine QB (QI (p := [LK p1 144 0 v1]) E S Y Y Y (QX Tryz.rwRLib (T := 144) (n := 0) (by decide) (by decide)) lerf ?_)
 clear E a S; rintro a _ w a3 _ a1 ⟨rfl, rfl⟩ S E
 replace S : St w a3 (Qh p1 (.cells #[.int .i32 0, .int .u32 0, .int .u32 0, .int .u32 0, .int .i32 1, .int .i32 0, v1] 144) :: Qh p0 (.cells #[.int .i32 0, .int .u32 0, .int .u32 0, .int .u32 0, .int .i32 1, .int .i32 0, v0] 144) :: H) := S
 replace h0 := h0.le a1
 replace h1 := h1.le a1
 refine ZB ?_
 replace S := S.mono_heap (w' := World.drew _) rfl
 refine QN (C := fun x w => agree a3 w ∧ (x = 3 → w.heap[p0]? = some (.cells #[.int .i32 0, .int .u32 0, .int .u32 0, .int .u32 0, .int .i32 1, .int .i32 0, v0] 144)) ∧ (x = 7 → w.heap[p1]? = some (.cells #[.int .i32 0, .int .u32 0, .int .u32 0, .int .u32 0, .int .i32 1, .int .i32 0, v1] 144))) (bf := (fun i => bif Nat.beq i 9 then [3, 7] else [])) [0, 1, 2, 3, 4, 5, 6, 7, 8, 10] [0, 1, 2, 3, 4, 5, 6, 7, 8, 9, 10] Tryz.mixed (by kernel_rfl) (fun x hq => ⟨S.imm, fun _ => (S.mem (.tail _ (.head _))), fun _ => (S.mem (.head _))⟩) ?_
 refine Qo E Y (fun w hC => (Qi E Y)) fun _ B => Qo B Y (fun w hC => (Qb B Y Y)) fun _ D => Qo D Y (fun w hC => (Ql D Y (QW _))) fun _ F => Qo F Y (fun w hC => (Jz F Y (Tryz.isAgg116 _) (QC (hC.2.1 Y) Y))) fun _ G => Qo G Y (fun w hC => (Qi G Y)) fun _ I => Qo I Y (fun w hC => (Qb I Y Y)) fun _ J => Qo J Y (fun w hC => (Ql J Y (QW _))) fun _ K => Qo K Y (fun w hC => (Jz K Y (Tryz.isAgg116 _) (QC (hC.2.2 Y) Y))) fun _ L => Qo L Y (fun w hC => (QV L Y Tryz.underlying116)) ?_
 clear E a B D F G I J K L; intro a E
 refine Zd Y Y Y (Jm E S Y Y Y (ZH h0 h1 (by first | assumption | omega) (by first | assumption | omega)) lerf ?_)
 clear E a S; rintro a _ w a7 a4 rfl S E
 refine ⟨fun x hq hb => ⟨(Qg a4 S.imm), (fun e => by subst e; exact absurd hb (by decide)), (fun e => by subst e; exact absurd hb (by decide))⟩, ?_⟩
 refine Qo E Y (fun w hC => (Qy E Y)) ?_
 clear E a; intro a E
 refine Jv (Ju ?_)
 refine JG (QF (Qq E Y fun _ B => QS B (Qb B Y Y) fun _ D => Qa D Y (Qs _) ?_))
 clear E a B D; intro a E
 replace S := S.front1
 replace S : St w a7 (LK p0 144 (0 + 1) v0 :: _) := S
 refine QB (QI (p := [LK p0 144 (0 + 1) v0]) E S Y Y Y (QP Tryz.rwRLib (T := 144) (n := 0) (by decide) (by decide)) lerf ?_)
 clear E a S; rintro a _ w a5 _ a8 ⟨rfl, rfl⟩ S E
 replace S : St w a5 (Qh p0 (.cells #[.int .i32 0, .int .u32 0, .int .u32 0, .int .u32 0, .int .i32 0, .int .i32 0, v0] 144) :: Qh p1 (.cells #[.int .i32 0, .int .u32 0, .int .u32 0, .int .u32 0, .int .i32 1, .int .i32 0, v1] 144) :: H) := S
 refine QZ (Qq E Y fun _ B => QS B (Qb B Y Y) fun _ D => Qa D Y (Qs _) ?_)
 clear E a B D; intro a E
 replace S := S.front1
 replace S : St w a5 (LK p1 144 (0 + 1) v1 :: _) := S
 refine QB (QI (p := [LK p1 144 (0 + 1) v1]) E S Y Y Y (QP Tryz.rwRLib (T := 144) (n := 0) (by decide) (by decide)) lerf ?_)
 clear E a S; rintro a _ w a6 _ a9 ⟨rfl, rfl⟩ S E
 replace S : St w a6 (Qh p1 (.cells #[.int .i32 0, .int .u32 0, .int .u32 0, .int .u32 0, .int .i32 0, .int .i32 0, v1] 144) :: Qh p0 (.cells #[.int .i32 0, .int .u32 0, .int .u32 0, .int .u32 0, .int .i32 0, .int .i32 0, v0] 144) :: H) := S
 refine QZ (JR 2 E Y ?_)
 clear E a; intro a E
 refine JQ ?_
 replace S := S.front1
 exact Qk E Tryz.results166 Y ⟨_, Y, a6, _, (a0.trans (a1.trans (a4.trans (a8.trans a9)))), ⟨Y, Y⟩, S⟩
theorem Un {M : Hp} {p0 : Nat} {v0 : Value} {c0 : List Int} (h0 : JH 145 M v0 c0) (b0 : c0.length ≤ 1000000000)  :
  Sp Tryz.prog (.func (.func 166) #[] #[]) M [.pointer (some ⟨p0, 0, none⟩), .iface 114 (.pointer (some ⟨p0, 0, none⟩))] [Qh p0 (.cells #[.int .i32 0, .int .u32 0, .int .u32 0, .int .u32 0, .int .i32 0, .int .i32 0, v0] 144)] (fun r M' C' => C' = [Qh p0 (.cells #[.int .i32 0, .int .u32 0, .int .u32 0, .int .u32 0, .int .i32 0, .int .i32 0, v0] 144)] ∧ (r = .bool (ZJ c0 c0))) := by
 refine Qu Tryz.func166 Y Tryz.ntmps166 Y Tryz.call166 ?_
 intro a w M1 H hM1 S E
 replace S : St w M1 (Qh p0 (.cells #[.int .i32 0, .int .u32 0, .int .u32 0, .int .u32 0, .int .i32 0, .int .i32 0, v0] 144) :: _) := S
 replace h0 := h0.le hM1
 have hset := h0
 obtain ⟨sb0, sm0, sq0, se0, shb0, shm0, shn0, shq0⟩ := hset
 have shq0l : sq0.length ≤ c0.length := Qn shn0 fun z hz => (shq0 z).1 hz
 refine QF (Qx E Y fun _ B => QZ (Qq B Y fun _ D => QS D (Jo D Y Tryz.underlying114 (by intro z hz; cases hz)) fun _ F => Qx F Y fun _ G => QZ (Qq G Y fun _ I => QS I (Qb I Y Y) fun _ J => Qa J Y (Qs _) ?_)))
 clear E a B D F G I J; intro a E
 replace S : St w M1 (LK p0 144 0 v0 :: _) := S
 refine QB (QI (p := [LK p0 144 0 v0]) E S Y Y Y (QX Tryz.rwRLib (T := 144) (n := 0) (by decide) (by decide)) lerf ?_)
 clear E a S; rintro a _ w a0 _ a1 ⟨rfl, rfl⟩ S E
 replace S : St w a0 (Qh p0 (.cells #[.int .i32 0, .int .u32 0, .int .u32 0, .int .u32 0, .int .i32 1, .int .i32 0, v0] 144) :: H) := S
 replace h0 := h0.le a1
 refine QZ (Qq E Y fun _ B => QS B (Qb B Y Y) fun _ D => Qa D Y (Qs _) ?_)
 clear E a B D; intro a E
 replace S : St w a0 (LK p0 144 1 v0 :: _) := S
 refine QB (QI (p := [LK p0 144 1 v0]) E S Y Y Y (QX Tryz.rwRLib (T := 144) (n := 1) (by decide) (by decide)) lerf ?_)
 clear E a S; rintro a _ w a2 _ a3 ⟨rfl, rfl⟩ S E
 replace S : St w a2 (Qh p0 (.cells #[.int .i32 0, .int .u32 0, .int .u32 0, .int .u32 0, .int .i32 2, .int .i32 0, v0] 144) :: H) := S
 replace h0 := h0.le a3
 refine ZB ?_
 replace S := S.mono_heap (w' := World.drew _) rfl
 refine QN (C := fun x w => agree a2 w ∧ (x = 3 → w.heap[p0]? = some (.cells #[.int .i32 0, .int .u32 0, .int .u32 0, .int .u32 0, .int .i32 2, .int .i32 0, v0] 144)) ∧ (x = 7 → w.heap[p0]? = some (.cells #[.int .i32 0, .int .u32 0, .int .u32 0, .int .u32 0, .int .i32 2, .int .i32 0, v0] 144))) (bf := (fun i => bif Nat.beq i 9 then [3, 7] else [])) [0, 1, 2, 3, 4, 5, 6, 7, 8, 10] [0, 1, 2, 3, 4, 5, 6, 7, 8, 9, 10] Tryz.mixed (by kernel_rfl) (fun x hq => ⟨S.imm, fun _ => (S.mem (.head _)), fun _ => (S.mem (.head _))⟩) ?_
 refine Qo E Y (fun w hC => (Qi E Y)) fun _ B => Qo B Y (fun w hC => (Qb B Y Y)) fun _ D => Qo D Y (fun w hC => (Ql D Y (QW _))) fun _ F => Qo F Y (fun w hC => (Jz F Y (Tryz.isAgg116 _) (QC (hC.2.1 Y) Y))) fun _ G => Qo G Y (fun w hC => (Qi G Y)) fun _ I => Qo I Y (fun w hC => (Qb I Y Y)) fun _ J => Qo J Y (fun w hC => (Ql J Y (QW _))) fun _ K => Qo K Y (fun w hC => (Jz K Y (Tryz.isAgg116 _) (QC (hC.2.2 Y) Y))) fun _ L => Qo L Y (fun w hC => (QV L Y Tryz.underlying116)) ?_
 clear E a B D F G I J K L; intro a E
 refine Zd Y Y Y (Jm E S Y Y Y (ZH h0 h0 (by first | assumption | omega) (by first | assumption | omega)) lerf ?_)
 clear E a S; rintro a _ w a7 a4 rfl S E
 refine ⟨fun x hq hb => ⟨(Qg a4 S.imm), (fun e => by subst e; exact absurd hb (by decide)), (fun e => by subst e; exact absurd hb (by decide))⟩, ?_⟩
 refine Qo E Y (fun w hC => (Qy E Y)) ?_
 clear E a; intro a E
 refine Jv (Ju ?_)
 refine JG (QF (Qq E Y fun _ B => QS B (Qb B Y Y) fun _ D => Qa D Y (Qs _) ?_))
 clear E a B D; intro a E
 replace S : St w a7 (LK p0 144 (1 + 1) v0 :: _) := S
 refine QB (QI (p := [LK p0 144 (1 + 1) v0]) E S Y Y Y (QP Tryz.rwRLib (T := 144) (n := 1) (by decide) (by decide)) lerf ?_)
 clear E a S; rintro a _ w a5 _ a8 ⟨rfl, rfl⟩ S E
 replace S : St w a5 (Qh p0 (.cells #[.int .i32 0, .int .u32 0, .int .u32 0, .int .u32 0, .int .i32 1, .int .i32 0, v0] 144) :: H) := S
 refine QZ (Qq E Y fun _ B => QS B (Qb B Y Y) fun _ D => Qa D Y (Qs _) ?_)
 clear E a B D; intro a E
 replace S : St w a5 (LK p0 144 (0 + 1) v0 :: _) := S
 refine QB (QI (p := [LK p0 144 (0 + 1) v0]) E S Y Y Y (QP Tryz.rwRLib (T := 144) (n := 0) (by decide) (by decide)) lerf ?_)
 clear E a S; rintro a _ w a6 _ a9 ⟨rfl, rfl⟩ S E
 replace S : St w a6 (Qh p0 (.cells #[.int .i32 0, .int .u32 0, .int .u32 0, .int .u32 0, .int .i32 0, .int .i32 0, v0] 144) :: H) := S
 refine QZ (JR 2 E Y ?_)
 clear E a; intro a E
 refine JQ ?_
 exact Qk E Tryz.results166 Y ⟨_, Y, a6, _, (a1.trans (a3.trans (a4.trans (a8.trans a9)))), ⟨Y, Y⟩, S⟩
theorem VY {M : Hp} {x0 : Bool} {v : Value} {t : List RG} {i : Nat} {x : RG} {j : Nat} {y : RG} (hx : t[i]? = some x) (hy : t[j]? = some y) (hb : x.2.2.length ≤ 1000000000) (hb2 : y.2.2.length ≤ 1000000000) :
  QD Tryz.prog (Zx KS x0 x) "ContainsAnyElement" M [Zx KS x0 y] [QK KS x0 v t] (fun r _ C' => ∃ D, C' = QK KS x0 v t :: D ∧ (r = (.bool (ZJ x.2.2 y.2.2)) ∧ D = [])) := by
 refine ZX hx hy (fun M' hM hr hs => ?_) (fun e M' hM hr => ?_)
 ·cases x0
  ·exact ZM (F := [Zc KS false x, Zc KS false y]) (QD.of_pu (fun w => ZZ _ w) Tryz.call191 (ZH hr hs hb hb2)) fun r M2 C h => h
  ·exact (QD.of_sp (fun w => Yb _ w) Tryz.call166 (UJ hr hs hb hb2)).mono fun r M2 C ⟨h1, h2⟩ => ⟨[], h1, h2, Y⟩
 ·subst e
  cases x0
  ·exact ZM (F := [Zc KS false y]) (QD.of_pu (fun w => ZZ _ w) Tryz.call191 (ZH hr hr hb hb)) fun r M2 C h => h
  ·exact (QD.of_sp (fun w => Yb _ w) Tryz.call166 (Un hr hb)).mono fun r M2 C ⟨h1, h2⟩ => ⟨[], h1, h2, Y⟩
end Go.Proofs.YtlmpgefhnmfhpaaGreat.wFnSetScript
